import PyProof.Rows.All
import Wide.All
import OpenK.AllK
import Wide.FinOn
import KE.KBytesWalk
import KE.BytesMake
import KE.KBytesCut
import PyProof.TupleOfStr
import Lean
import PySem.Challenge.RW_wf0025_01
open PySem PySem.W PyProof.Rows PySem.Spec PySem.Calls
set_option Elab.async false
section
set_option maxRecDepth 100000
namespace Mine

/-! values, state -/
inductive AV where
  | con (v : Value)
  | bool (b : Bool)
  | int (i : Int)
  | str (s : Str)
  | bytes (b : List Nat)
  | tup (vs : List AV)
  | blist (vs : List AV)
  | ref (id : Nat)
  deriving Inhabited

inductive AO where
  | list (xs : List AV)
  | barr (b : List Nat)
  deriving Inhabited

noncomputable abbrev St := List AO
noncomputable abbrev Fm := List (Option AV)

noncomputable def bytesArr (b : List Nat) : Array UInt8 := (b.map Nat.toUInt8).toArray
noncomputable abbrev tupObj (items : List Value) (n : Nat) : Obj := { cls := .type "tuple", data := .seq items.toArray n }
noncomputable abbrev lstObj (items : List Value) (n : Nat) : Obj := { cls := .type "list", data := .seq items.toArray n }
noncomputable abbrev barObj (b : List Nat) : Obj := { cls := .type "bytearray", data := .bytearray (bytesArr b) 0 }

mutual
inductive Rep (g : Heap) (φ : Nat → Addr) (n : Nat) (h : Heap) : AV → Value → Prop
  | con (v : Value) : Rep g φ n h (.con v) v
  | bool (b : Bool) : Rep g φ n h (.bool b) (.bool b)
  | int (i : Int) (t : Tok) : Rep g φ n h (.int i) (.int i t)
  | str (s : Str) (t : Tok) : Rep g φ n h (.str s) (.str s t)
  | bytes (b : List Nat) (t : Tok) (hb : ∀ x ∈ b, x < 256) : Rep g φ n h (.bytes b) (.bytes (bytesArr b) t)
  | tup {vs : List AV} {items : List Value} {a : Addr} {k : Nat} (ha : h.get? a = some (tupObj items k)) (hr : Reps g φ n h vs items) : Rep g φ n h (.tup vs) (.ref a)
  | blist {vs : List AV} {items : List Value} {a : Addr} (ha : g.IsList a items.toArray) (hr : Reps g φ n h vs items) : Rep g φ n h (.blist vs) (.ref a)
  | ref (id : Nat) (hid : id < n) : Rep g φ n h (.ref id) (.ref (φ id))
inductive Reps (g : Heap) (φ : Nat → Addr) (n : Nat) (h : Heap) : List AV → List Value → Prop
  | nil : Reps g φ n h [] []
  | cons {a : AV} {v : Value} {as : List AV} {vs : List Value} : Rep g φ n h a v → Reps g φ n h as vs → Reps g φ n h (a :: as) (v :: vs)
end

theorem Rep.intI {g φ n h i v} (r : Rep g φ n h (.int i) v) : ∃ t, v = .int i t := by cases r; exact ⟨_, rfl⟩
theorem Rep.strI {g φ n h i v} (r : Rep g φ n h (.str i) v) : ∃ t, v = .str i t := by cases r; exact ⟨_, rfl⟩
theorem Rep.bytesI {g φ n h b v} (r : Rep g φ n h (.bytes b) v) : ∃ t, v = .bytes (bytesArr b) t ∧ ∀ x ∈ b, x < 256 := by cases r with | bytes _ _ hb => exact ⟨_, rfl, hb⟩
theorem Rep.tupI {g φ n h vs v} (r : Rep g φ n h (.tup vs) v) : ∃ items a k, v = .ref a ∧ h.get? a = some (tupObj items k) ∧ Reps g φ n h vs items := by cases r with | tup ha hr => exact ⟨_, _, _, rfl, ha, hr⟩
theorem Rep.blistI {g φ n h vs v} (r : Rep g φ n h (.blist vs) v) : ∃ items a, v = .ref a ∧ g.IsList a items.toArray ∧ Reps g φ n h vs items := by cases r with | blist ha hr => exact ⟨_, _, rfl, ha, hr⟩
theorem Rep.refI {g φ n h id v} (r : Rep g φ n h (.ref id) v) : v = .ref (φ id) ∧ id < n := by cases r with | ref _ hid => exact ⟨rfl, hid⟩
theorem Reps.nilI {g φ n h vs} (r : Reps g φ n h [] vs) : vs = [] := by cases r; rfl
theorem Reps.consI {g φ n h a as vs} (r : Reps g φ n h (a :: as) vs) : ∃ v ws, vs = v :: ws ∧ Rep g φ n h a v ∧ Reps g φ n h as ws := by cases r with | cons r1 r2 => exact ⟨_, _, rfl, r1, r2⟩
theorem Reps.oneI {g φ n h a vs} (r : Reps g φ n h [a] vs) : ∃ v, vs = [v] ∧ Rep g φ n h a v := by
  obtain ⟨v, ws, rfl, r1, r2⟩ := r.consI
  obtain rfl := r2.nilI
  exact ⟨_, rfl, r1⟩
theorem Reps.twoI {g φ n h a b vs} (r : Reps g φ n h [a, b] vs) : ∃ v w, vs = [v, w] ∧ Rep g φ n h a v ∧ Rep g φ n h b w := by
  obtain ⟨v, ws, rfl, r1, r2⟩ := r.consI
  obtain ⟨_, rfl, r3⟩ := r2.oneI
  exact ⟨_, _, rfl, r1, r3⟩
theorem Reps.threeI {g φ n h a b c vs} (r : Reps g φ n h [a, b, c] vs) : ∃ u v w, vs = [u, v, w] ∧ Rep g φ n h a u ∧ Rep g φ n h b v ∧ Rep g φ n h c w := by
  obtain ⟨v, ws, rfl, r1, r2⟩ := r.consI
  obtain ⟨_, _, rfl, r3, r4⟩ := r2.twoI
  exact ⟨_, _, _, rfl, r1, r3, r4⟩

inductive ORep (g : Heap) (φ : Nat → Addr) (n : Nat) (h : Heap) : AO → Obj → Prop
  | list {xs : List AV} {items : List Value} {k : Nat} (hr : Reps g φ n h xs items) : ORep g φ n h (.list xs) (lstObj items k)
  | barr {b : List Nat} (hb : ∀ x ∈ b, x < 256) : ORep g φ n h (.barr b) (barObj b)

structure Rel (g : Heap) (φ : Nat → Addr) (σ : St) (h : Heap) : Prop where
  objs : ∀ id o, σ[id]? = some o → ∃ ob, h.get? (φ id) = some ob ∧ ORep g φ σ.length h o ob
  inj : ∀ i j, i < σ.length → j < σ.length → φ i = φ j → i = j
  base : ∀ b o, g.get? b = some o → h.get? b = some o
  fresh : ∀ id, id < σ.length → g.get? (φ id) = none

noncomputable def mutObj (o : Obj) : Prop := (o.cls = .type "list" ∧ ∃ xs n, o.data = .seq xs n) ∨ (o.cls = .type "bytearray" ∧ ∃ b k, o.data = .bytearray b k)

theorem ORep.mut {g φ n h ao ob} (x : ORep g φ n h ao ob) : mutObj ob := by
  cases x with
  | list _ => exact .inl ⟨rfl, _, _, rfl⟩
  | barr _ => exact .inr ⟨rfl, _, _, rfl⟩
theorem not_mut_tup (items n) : ¬ mutObj (tupObj items n) := by
  rintro (⟨h, _⟩ | ⟨h, _⟩) <;> simp at h
theorem not_mut_dict {o : Obj} {es ep} (h : o.data = .dict es ep) : ¬ mutObj o := by
  rintro (⟨_, _, _, h'⟩ | ⟨_, _, _, h'⟩) <;> rw [h] at h' <;> cases h'
theorem not_mut_cell {o : Obj} {v} (h : o.data = .cell v) : ¬ mutObj o := by
  rintro (⟨_, _, _, h'⟩ | ⟨_, _, _, h'⟩) <;> rw [h] at h' <;> cases h'
theorem not_mut_fields {o : Obj} {v} (h : o.data = .fields v) : ¬ mutObj o := by
  rintro (⟨_, _, _, h'⟩ | ⟨_, _, _, h'⟩) <;> rw [h] at h' <;> cases h'

theorem Rel.apart {g φ σ h} (R : Rel g φ σ h) {b o} (e : h.get? b = some o) (hm : ¬ mutObj o) : ∀ id, id < σ.length → φ id ≠ b := by
  intro id hid hb
  obtain ⟨ob, hob, hr⟩ := R.objs id σ[id] (List.getElem?_eq_getElem hid)
  rw [hb, e] at hob
  cases hob
  exact hm hr.mut

noncomputable def Keep (φ : Nat → Addr) (n : Nat) (h h' : Heap) : Prop := ∀ b o, h.get? b = some o → (∀ id, id < n → φ id ≠ b) → h'.get? b = some o

structure Ext (g : Heap) (φ : Nat → Addr) (σ : St) (h : Heap) (φ' : Nat → Addr) (σ' : St) (h' : Heap) : Prop where
  rel0 : Rel g φ σ h
  rel : Rel g φ' σ' h'
  agree : ∀ id, id < σ.length → φ' id = φ id
  le : σ.length ≤ σ'.length
  keep : Keep φ σ.length h h'
  new : ∀ id, σ.length ≤ id → id < σ'.length → h.get? (φ' id) = none

theorem Ext.refl {g φ σ h} (R : Rel g φ σ h) : Ext g φ σ h φ σ h :=
  ⟨R, R, fun _ _ => rfl, Nat.le_refl _, fun _ _ e _ => e, fun _ h1 h2 => absurd h2 (Nat.not_lt.mpr h1)⟩

theorem Ext.get {g φ σ h φ' σ' h'} (X : Ext g φ σ h φ' σ' h') {b o} (e : h.get? b = some o) (hm : ¬ mutObj o) : h'.get? b = some o :=
  X.keep b o e (X.rel0.apart e hm)

theorem Ext.trans {g φ σ h φ' σ' h' φ'' σ'' h''} (X : Ext g φ σ h φ' σ' h') (Y : Ext g φ' σ' h' φ'' σ'' h'') : Ext g φ σ h φ'' σ'' h'' := by
  refine ⟨X.rel0, Y.rel, fun id hid => (Y.agree id (Nat.lt_of_lt_of_le hid X.le)).trans (X.agree id hid), Nat.le_trans X.le Y.le, fun b o e hb => ?_, fun id h1 h2 => ?_⟩
  · refine Y.keep b o (X.keep b o e hb) fun id hid hφ => ?_
    by_cases hlt : id < σ.length
    · exact hb id hlt (by rw [← X.agree id hlt]; exact hφ)
    · have := X.new id (Nat.not_lt.mp hlt) hid
      rw [hφ, e] at this
      cases this
  · by_cases hlt : id < σ'.length
    · rw [Y.agree id hlt]
      exact X.new id h1 hlt
    · have hn := Y.new id (Nat.not_lt.mp hlt) h2
      cases hq : h.get? (φ'' id) with
      | none => rfl
      | some o =>
        exfalso
        by_cases hmut : ∃ i, i < σ.length ∧ φ i = φ'' id
        · obtain ⟨i, hi, he⟩ := hmut
          obtain ⟨ob, hob, _⟩ := Y.rel0.objs i (σ'[i]'(Nat.lt_of_lt_of_le hi X.le)) (List.getElem?_eq_getElem (Nat.lt_of_lt_of_le hi X.le))
          rw [X.agree i hi, he, hn] at hob
          cases hob
        · have := X.keep _ _ hq fun i hi he => hmut ⟨i, hi, he⟩
          rw [hn] at this
          cases this

mutual
theorem Rep.ext {g φ σ h φ' σ' h'} (X : Ext g φ σ h φ' σ' h') : ∀ {a v}, Rep g φ σ.length h a v → Rep g φ' σ'.length h' a v
  | _, _, .con v => .con v
  | _, _, .bool b => .bool b
  | _, _, .int i t => .int i t
  | _, _, .str s t => .str s t
  | _, _, .bytes b t hb => .bytes b t hb
  | _, _, .tup ha hr => .tup (X.get ha (not_mut_tup _ _)) (Reps.ext X hr)
  | _, _, .blist ha hr => .blist ha (Reps.ext X hr)
  | _, _, .ref id hid => by
    have := Rep.ref (g := g) (φ := φ') (n := σ'.length) (h := h') id (Nat.lt_of_lt_of_le hid X.le)
    rw [X.agree id hid] at this
    exact this
theorem Reps.ext {g φ σ h φ' σ' h'} (X : Ext g φ σ h φ' σ' h') : ∀ {as vs}, Reps g φ σ.length h as vs → Reps g φ' σ'.length h' as vs
  | _, _, .nil => .nil
  | _, _, .cons a b => .cons (Rep.ext X a) (Reps.ext X b)
end

mutual
theorem Rep.keeps {g φ n h φ' n' h'} (ha : ∀ id, id < n → φ' id = φ id) (hn : n ≤ n') (hk : ∀ a items k, h.get? a = some (tupObj items k) → h'.get? a = some (tupObj items k)) : ∀ {a v}, Rep g φ n h a v → Rep g φ' n' h' a v
  | _, _, .con v => .con v
  | _, _, .bool b => .bool b
  | _, _, .int i t => .int i t
  | _, _, .str s t => .str s t
  | _, _, .bytes b t hb => .bytes b t hb
  | _, _, .tup e hr => .tup (hk _ _ _ e) (Reps.keeps ha hn hk hr)
  | _, _, .blist e hr => .blist e (Reps.keeps ha hn hk hr)
  | _, _, .ref id hid => by
    have := Rep.ref (g := g) (φ := φ') (n := n') (h := h') id (Nat.lt_of_lt_of_le hid hn)
    rw [ha id hid] at this
    exact this
theorem Reps.keeps {g φ n h φ' n' h'} (ha : ∀ id, id < n → φ' id = φ id) (hn : n ≤ n') (hk : ∀ a items k, h.get? a = some (tupObj items k) → h'.get? a = some (tupObj items k)) : ∀ {as vs}, Reps g φ n h as vs → Reps g φ' n' h' as vs
  | _, _, .nil => .nil
  | _, _, .cons a b => .cons (Rep.keeps ha hn hk a) (Reps.keeps ha hn hk b)
end
theorem ORep.keeps {g φ n h φ' n' h'} (ha : ∀ id, id < n → φ' id = φ id) (hn : n ≤ n') (hk : ∀ a items k, h.get? a = some (tupObj items k) → h'.get? a = some (tupObj items k)) {a o} (x : ORep g φ n h a o) : ORep g φ' n' h' a o := by
  cases x with
  | list hr => exact .list (Reps.keeps ha hn hk hr)
  | barr hb => exact .barr hb

theorem Reps.length {g φ n h} {as : List AV} {vs : List Value} (x : Reps g φ n h as vs) : vs.length = as.length := by
  induction as generalizing vs with
  | nil => cases x; rfl
  | cons a as ih => cases x with | cons h1 h2 => simp [ih h2]
theorem Reps.get {g φ n h} {as : List AV} {vs : List Value} (x : Reps g φ n h as vs) : ∀ {i : Nat} {a : AV}, as[i]? = some a → ∃ v, vs[i]? = some v ∧ Rep g φ n h a v := by
  induction as generalizing vs with
  | nil => intro i a e; simp at e
  | cons b as ih =>
    cases x with
    | cons h1 h2 =>
      intro i a e
      cases i with
      | zero => simp at e; subst e; exact ⟨_, rfl, h1⟩
      | succ i => simp at e; simpa using ih h2 e
theorem Reps.append {g φ n h} {as : List AV} {vs : List Value} {bs : List AV} {ws : List Value} (x : Reps g φ n h as vs) (y : Reps g φ n h bs ws) : Reps g φ n h (as ++ bs) (vs ++ ws) := by
  induction as generalizing vs with
  | nil => cases x; exact y
  | cons a as ih => cases x with | cons h1 h2 => exact .cons h1 (ih h2)
theorem Reps.take {g φ n h} {as : List AV} {vs : List Value} (x : Reps g φ n h as vs) (k : Nat) : Reps g φ n h (as.take k) (vs.take k) := by
  induction as generalizing vs k with
  | nil => cases x; simpa using Reps.nil
  | cons a as ih => cases x with
    | cons h1 h2 => cases k with
      | zero => exact .nil
      | succ k => exact .cons h1 (ih h2 k)
theorem Reps.drop {g φ n h} {as : List AV} {vs : List Value} (x : Reps g φ n h as vs) (k : Nat) : Reps g φ n h (as.drop k) (vs.drop k) := by
  induction as generalizing vs k with
  | nil => cases x; simpa using Reps.nil
  | cons a as ih => cases x with
    | cons h1 h2 => cases k with
      | zero => exact .cons h1 h2
      | succ k => exact ih h2 k
theorem Reps.snoc {g φ n h} {as : List AV} {vs : List Value} {a v} (x : Reps g φ n h as vs) (y : Rep g φ n h a v) : Reps g φ n h (as ++ [a]) (vs ++ [v]) := x.append (.cons y .nil)
theorem Reps.set {g φ n h} {as : List AV} {vs : List Value} (x : Reps g φ n h as vs) {a v} (y : Rep g φ n h a v) (k : Nat) : Reps g φ n h (as.set k a) (vs.set k v) := by
  induction as generalizing vs k with
  | nil => cases x; simpa using Reps.nil
  | cons b as ih => cases x with
    | cons h1 h2 => cases k with
      | zero => exact .cons y h2
      | succ k => exact .cons h1 (ih h2 k)

/-! a step that only makes objects or changes nothing of ours -/
theorem Ext.grow {g φ σ h h'} (R : Rel g φ σ h) (hk : ∀ b o, h.get? b = some o → h'.get? b = some o) : Ext g φ σ h φ σ h' := by
  refine ⟨R, ⟨fun id o e => ?_, R.inj, fun b o e => hk _ _ (R.base b o e), R.fresh⟩, fun _ _ => rfl, Nat.le_refl _, fun b o e _ => hk b o e, fun _ h1 h2 => absurd h2 (Nat.not_lt.mpr h1)⟩
  obtain ⟨ob, hob, hr⟩ := R.objs id o e
  exact ⟨ob, hk _ _ hob, hr.keeps (fun _ _ => rfl) (Nat.le_refl _) fun a items k e => hk _ _ e⟩

/-- a new list (or bytearray) of ours at the address A -/
noncomputable def φput (φ : Nat → Addr) (n : Nat) (A : Addr) : Nat → Addr := fun i => if i = n then A else φ i
theorem φput_old {φ n A i} (h : i < n) : φput φ n A i = φ i := if_neg (Nat.ne_of_lt h)
theorem φput_new {φ n A} : φput φ n A n = A := if_pos rfl

theorem Ext.made {g φ σ h h' A ao ob} (R : Rel g φ σ h) (hk : ∀ b o, h.get? b = some o → h'.get? b = some o) (hA : h.get? A = none) (hob : h'.get? A = some ob)
    (hr : ORep g φ σ.length h' ao ob) : Ext g φ σ h (φput φ σ.length A) (σ ++ [ao]) h' := by
  have hgA : g.get? A = none := by
    cases e : g.get? A with
    | none => rfl
    | some o => have := R.base _ _ e; rw [hA] at this; cases this
  have hne : ∀ i, i < σ.length → φ i ≠ A := fun i hi e => by
    obtain ⟨ob', hob', _⟩ := R.objs i σ[i] (List.getElem?_eq_getElem hi)
    rw [e, hA] at hob'; cases hob'
  refine ⟨R, ⟨fun id o e => ?_, fun i j hi hj e => ?_, fun b o e => hk _ _ (R.base b o e), fun id hid => ?_⟩, fun id hid => φput_old hid, by simp, fun b o e _ => hk b o e, fun id h1 h2 => ?_⟩
  · rw [List.length_append, List.length_singleton]
    have keepR : ∀ {a o}, ORep g φ σ.length h' a o → ORep g (φput φ σ.length A) (σ.length + 1) h' a o := fun x =>
      x.keeps (fun id hid => φput_old hid) (Nat.le_succ _) fun _ _ _ e => e
    by_cases hlt : id < σ.length
    · rw [List.getElem?_append_left hlt] at e
      obtain ⟨ob', hob', hr'⟩ := R.objs id o e
      rw [φput_old hlt]
      exact ⟨ob', hk _ _ hob', keepR (hr'.keeps (fun _ _ => rfl) (Nat.le_refl _) fun a items k e => hk _ _ e)⟩
    · have hid : id = σ.length := by
        have := (List.getElem?_eq_some_iff.mp e).1
        rw [List.length_append, List.length_singleton] at this
        (first | lia | omega)
      subst hid
      rw [List.getElem?_append_right (Nat.le_refl _), Nat.sub_self] at e
      cases e
      rw [φput_new]
      exact ⟨ob, hob, keepR hr⟩
  · rw [List.length_append, List.length_singleton] at hi hj
    by_cases h1 : i = σ.length
    · by_cases h2 : j = σ.length
      · (first | lia | omega)
      · rw [h1, φput_new, φput_old (by (first | lia | omega))] at e
        exact absurd e.symm (hne j (by (first | lia | omega)))
    · by_cases h2 : j = σ.length
      · rw [h2, φput_new, φput_old (by (first | lia | omega))] at e
        exact absurd e (hne i (by (first | lia | omega)))
      · rw [φput_old (by (first | lia | omega)), φput_old (by (first | lia | omega))] at e
        exact R.inj i j (by (first | lia | omega)) (by (first | lia | omega)) e
  · rw [List.length_append, List.length_singleton] at hid
    by_cases h1 : id = σ.length
    · rw [h1, φput_new]; exact hgA
    · rw [φput_old (by (first | lia | omega))]; exact R.fresh id (by (first | lia | omega))
  · rw [List.length_append, List.length_singleton] at h2
    have : id = σ.length := by (first | lia | omega)
    rw [this, φput_new]; exact hA

/-- an object of ours changed -/
theorem Ext.upd {g φ σ h h' id ao ob} (R : Rel g φ σ h) (hid : id < σ.length) (hk : ∀ b o, b ≠ φ id → h.get? b = some o → h'.get? b = some o) (hob : h'.get? (φ id) = some ob)
    (hr : ORep g φ σ.length h' ao ob) : Ext g φ σ h φ (σ.set id ao) h' := by
  have hlen : (σ.set id ao).length = σ.length := List.length_set ..
  have hbase : ∀ b o, g.get? b = some o → b ≠ φ id := fun b o e hb => by rw [hb, R.fresh id hid] at e; cases e
  have htup : ∀ a items k, h.get? a = some (tupObj items k) → h'.get? a = some (tupObj items k) := fun a items k e => hk _ _ (fun hb => R.apart e (not_mut_tup _ _) id hid hb.symm) e
  refine ⟨R, ⟨fun i o e => ?_, fun i j hi hj e => R.inj i j (by rwa [hlen] at hi) (by rwa [hlen] at hj) e, fun b o e => hk _ _ (hbase b o e) (R.base b o e), fun i hi => R.fresh i (by rwa [hlen] at hi)⟩, fun _ _ => rfl, by rw [hlen]; exact Nat.le_refl _,
    fun b o e hb => hk b o (fun e' => hb id hid e'.symm) e, fun i h1 h2 => absurd (by rwa [hlen] at h2) (Nat.not_lt.mpr h1)⟩
  rw [hlen]
  by_cases hi : i = id
  · subst hi
    rw [List.getElem?_set_self hid] at e
    cases e
    exact ⟨ob, hob, hr⟩
  · rw [List.getElem?_set_ne (fun h => hi h.symm)] at e
    obtain ⟨ob', hob', hr'⟩ := R.objs i o e
    have hlt : i < σ.length := (List.getElem?_eq_some_iff.mp e).1
    exact ⟨ob', hk _ _ (fun hb => hi (R.inj i id hlt hid hb)) hob', hr'.keeps (fun _ _ => rfl) (Nat.le_refl _) htup⟩

/-! the frame -/
noncomputable def Fm.get (ρ : Fm) (i : Nat) : Option AV := ρ.getD i none

structure EnvOK (nms : List (Str × NameKind)) (env : Env) : Prop where
  kind : env.scope.kind = .function
  names : env.scope.names = nms
  globals : env.globals = mainGlobals
  builtins : env.builtins = builtinsNs
  apart : ∀ x y c, env.cells.lookup x = some c → env.cells.lookup y = some c → x = y

noncomputable def VarOK (g : Heap) (φ : Nat → Addr) (n : Nat) (h : Heap) (env : Env) (m : Str → Option Value) (x : Str) (av : AV) : Prop :=
  (env.kindOf x = some .local ∧ ∃ v, m x = some v ∧ Rep g φ n h av v) ∨
  (env.kindOf x = some .cell ∧ ∃ c v, env.cells.lookup x = some c ∧ h.IsCell c (some v) ∧ Rep g φ n h av v)

structure FrameOK (g : Heap) (nm : List Str) (env : Env) (φ : Nat → Addr) (n : Nat) (h : Heap) (ρ : Fm) : Prop where
  vars : ∃ m, h.Ns env.locals m ∧ ∀ i av, Fm.get ρ i = some av → ∃ x, nm[i]? = some x ∧ VarOK g φ n h env m x av
  cells : ∀ x, env.kindOf x = some .cell → ∃ c ov, env.cells.lookup x = some c ∧ h.IsCell c ov ∧ g.get? c = none
  lf : g.get? env.locals = none

theorem Ext.ns {g φ σ h φ' σ' h'} (X : Ext g φ σ h φ' σ' h') {L m} (N : h.Ns L m) : h'.Ns L m := by
  obtain ⟨o, es, ep, e, d, r⟩ := N
  exact ⟨o, es, ep, X.get e (not_mut_dict d), d, r⟩
theorem Ext.cell {g φ σ h φ' σ' h'} (X : Ext g φ σ h φ' σ' h') {c v} (N : h.IsCell c v) : h'.IsCell c v := by
  obtain ⟨o, e, d⟩ := N
  exact ⟨o, X.get e (not_mut_cell d), d⟩
theorem FrameOK.ext {g φ σ h φ' σ' h' nm env ρ} (X : Ext g φ σ h φ' σ' h') (F : FrameOK g nm env φ σ.length h ρ) : FrameOK g nm env φ' σ'.length h' ρ := by
  obtain ⟨m, hn, hv⟩ := F.vars
  refine ⟨⟨m, X.ns hn, fun i av e => ?_⟩, fun x hx => ?_, F.lf⟩
  · obtain ⟨x, hx, hk⟩ := hv i av e
    refine ⟨x, hx, hk.imp (fun ⟨a, v, b, c⟩ => ⟨a, v, b, c.ext X⟩) fun ⟨a, c, v, b, d, r⟩ => ⟨a, c, v, b, X.cell d, r.ext X⟩⟩
  · obtain ⟨c, ov, h1, h2, h3⟩ := F.cells x hx
    exact ⟨c, ov, h1, X.cell h2, h3⟩

/-! room -/
structure Rm (A : Around) (k : Nat) : Prop where
  hd : A.handled = none
  dp : A.depth + k < recursionLimit
  un : A.units + 8 * k + 50 < cLine
theorem Rm.mono {A k k'} (h : Rm A k) (hk : k' ≤ k) : Rm A k' := ⟨h.hd, by have := h.dp; (first | lia | omega), by have := h.un; (first | lia | omega)⟩

/-! what a tree does -/
section
variable (prog : Program) (w : World) (g : Heap)
noncomputable def Runs (A : Around) (s : Shared) (φ : Nat → Addr) (σ : St) (t : Sem Value) (r : Option (AV × St)) : Prop :=
  ∀ av σ', r = some (av, σ') → ∀ (Q E : Value → Shared → Prop), (∀ v h' tk φ', Ext g φ σ s.heap φ' σ' h' → Rep g φ' σ'.length h' av v → Q v { s with heap := h', toks := tk }) → wpAny (model prog w) A t Q E s
noncomputable def RunsL (A : Around) (s : Shared) (φ : Nat → Addr) (σ : St) (t : Sem (List Value)) (r : Option (List AV × St)) : Prop :=
  ∀ avs σ', r = some (avs, σ') → ∀ (Q : List Value → Shared → Prop) (E : Value → Shared → Prop), (∀ vs h' tk φ', Ext g φ σ s.heap φ' σ' h' → Reps g φ' σ'.length h' avs vs → Q vs { s with heap := h', toks := tk }) → wpAny (model prog w) A t Q E s
noncomputable def RunsB (A : Around) (s : Shared) (φ : Nat → Addr) (σ : St) (t : Sem Bool) (r : Option (Bool × St)) : Prop :=
  ∀ b σ', r = some (b, σ') → ∀ (Q : Bool → Shared → Prop) (E : Value → Shared → Prop), (∀ h' tk φ', Ext g φ σ s.heap φ' σ' h' → Q b { s with heap := h', toks := tk }) → wpAny (model prog w) A t Q E s

noncomputable abbrev EF := Fm → St → Option (AV × St)
noncomputable abbrev TF := Fm → St → Option (Bool × St)
noncomputable abbrev EFs := Fm → St → Option (List AV × St)

noncomputable def SimE (k : Nat) (nms : List (Str × NameKind)) (nm : List Str) (e : Expr) (f : EF) : Prop :=
  ∀ env A s φ ρ σ, EnvOK nms env → Rm A k → Rel g φ σ s.heap → FrameOK g nm env φ σ.length s.heap ρ → Runs prog w g A s φ σ (eval e env) (f ρ σ)
noncomputable def SimT (k : Nat) (nms : List (Str × NameKind)) (nm : List Str) (e : Expr) (f : TF) : Prop :=
  ∀ env A s φ ρ σ, EnvOK nms env → Rm A k → Rel g φ σ s.heap → FrameOK g nm env φ σ.length s.heap ρ → RunsB prog w g A s φ σ (isTrue e env (eval e env)) (f ρ σ)
noncomputable def SimEs (k : Nat) (nms : List (Str × NameKind)) (nm : List Str) (es : List Expr) (f : EFs) : Prop :=
  ∀ env A s φ ρ σ pos, EnvOK nms env → Rm A k → Rel g φ σ s.heap → FrameOK g nm env φ σ.length s.heap ρ → RunsL prog w g A s φ σ (spliced (backTo pos (starEach es env))) (f ρ σ)
end
end Mine
end
section
set_option maxRecDepth 100000
namespace Mine
section
variable {prog : Program} {w : World} {g : Heap} {k : Nat} {nms : List (Str × NameKind)} {nm : List Str}

theorem obind {α β : Type} {x : Option α} {f : α → Option β} {b : β} (h : x.bind f = some b) : ∃ a, x = some a ∧ f a = some b := by
  cases x with
  | none => cases h
  | some a => exact ⟨a, rfl, h⟩

/-! leaves -/
noncomputable def varE (i : Nat) : EF := fun ρ σ => (Fm.get ρ i).map fun v => (v, σ)
noncomputable def valE (a : AV) : EF := fun _ σ => some (a, σ)

theorem sim_var {x : Str} {pos : Pos} (i : Nat) (hx : nm[i]? = some x) (hd : (x == ("__debug__" : Str)) = false) : SimE prog w g k nms nm (.Name x pos) (varE i) := by
  intro env A s φ ρ σ eo _ R F av σ' e Q E h
  obtain ⟨v0, hv, e2⟩ : ∃ v0, Fm.get ρ i = some v0 ∧ (v0, σ) = (av, σ') := by
    unfold varE at e
    cases hv : Fm.get ρ i with
    | none => rw [hv] at e; (first | obtain ⟨rfl, rfl⟩ := Prod.mk.inj (Option.some.inj e) | cases e)
    | some v0 => rw [hv] at e; exact ⟨v0, rfl, Option.some.inj e⟩
  injection e2 with e3 e4
  subst e3 e4
  obtain ⟨m, hn, hm⟩ := F.vars
  obtain ⟨x', hx', hk⟩ := hm i _ hv
  rw [hx] at hx'
  cases hx'
  rcases hk with ⟨hl, v, hmv, hr⟩ | ⟨hl, c, v, hc, hcell, hr⟩
  · exact wpAny_Name (wpAny_loadName_local eo.kind hl hn hmv (h v s.heap s.toks φ (Ext.refl R) hr)) hd
  · exact wpAny_Name (wpAny_loadName_cell eo.kind hl hc hcell (h v s.heap s.toks φ (Ext.refl R) hr)) hd

noncomputable def GlobIs (g : Heap) (x : Str) (v : Value) : Prop := ∃ mg mb, g.Ns mainGlobals mg ∧ g.Ns builtinsNs mb ∧ (mg x = some v ∨ (mg x = none ∧ mb x = some v))
theorem sim_glob {x : Str} {pos : Pos} (v : Value) (hk : nms.lookup x = some .globalImplicit) (hd : (x == ("__debug__" : Str)) = false) (hg : GlobIs g x v) : SimE prog w g k nms nm (.Name x pos) (valE (.con v)) := by
  intro env A s φ ρ σ eo _ R F av σ' e Q E h
  (first | obtain ⟨rfl, rfl⟩ := Prod.mk.inj (Option.some.inj e) | cases e)
  obtain ⟨mg, mb, h1, h2, h3⟩ := hg
  have fin := h v s.heap s.toks φ (Ext.refl R) (.con v)
  have hkd : env.kindOf x = some .globalImplicit := by
    unfold Env.kindOf
    rw [eo.names]; exact hk
  rcases h3 with h3 | ⟨h3, h4⟩
  · exact Name_function_global eo.kind hkd (loadGlobal_global (env := env) (by rw [eo.globals]; exact h1.keeps R.base) h3 fin) hd
  · exact Name_function_global eo.kind hkd (loadGlobal_builtin (env := env) (by rw [eo.globals]; exact h1.keeps R.base) h3 (by rw [eo.builtins]; exact h2.keeps R.base) h4 fin) hd

theorem sim_int {i : Int} {kk : Nat} {pos : Pos} : SimE prog w g k nms nm (.Constant (.int i) kk pos) (valE (.int i)) := by
  intro env A s φ ρ σ _ _ R F av σ' e Q E h
  (first | obtain ⟨rfl, rfl⟩ := Prod.mk.inj (Option.some.inj e) | cases e)
  exact wpAny_Constant_int (h _ s.heap _ φ (Ext.refl R) (.int _ _))
theorem sim_str {x : Str} {kk : Nat} {pos : Pos} : SimE prog w g k nms nm (.Constant (.str x) kk pos) (valE (.str x)) := by
  intro env A s φ ρ σ _ _ R F av σ' e Q E h
  (first | obtain ⟨rfl, rfl⟩ := Prod.mk.inj (Option.some.inj e) | cases e)
  exact wpAny_Constant_str (h _ s.heap _ φ (Ext.refl R) (.str _ _))
theorem sim_bool {b : Bool} {kk : Nat} {pos : Pos} : SimE prog w g k nms nm (.Constant (.bool b) kk pos) (valE (.bool b)) := by
  intro env A s φ ρ σ _ _ R F av σ' e Q E h
  (first | obtain ⟨rfl, rfl⟩ := Prod.mk.inj (Option.some.inj e) | cases e)
  exact wpAny_Constant_bool (h _ s.heap s.toks φ (Ext.refl R) (.bool _))
theorem sim_none {kk : Nat} {pos : Pos} : SimE prog w g k nms nm (.Constant .none kk pos) (valE (.con .none)) := by
  intro env A s φ ρ σ _ _ R F av σ' e Q E h
  (first | obtain ⟨rfl, rfl⟩ := Prod.mk.inj (Option.some.inj e) | cases e)
  exact wpAny_Constant_none (h _ s.heap s.toks φ (Ext.refl R) (.con _))

/-! two operands -/
noncomputable abbrev BF := AV → AV → St → Option (AV × St)
noncomputable abbrev UF := AV → St → Option (AV × St)
noncomputable def binE (op : BF) (f1 f2 : EF) : EF := fun ρ σ => (f1 ρ σ).bind fun p => (f2 ρ p.2).bind fun q => op p.1 q.1 q.2
noncomputable def unE (op : UF) (f1 : EF) : EF := fun ρ σ => (f1 ρ σ).bind fun p => op p.1 p.2

variable (prog w g k) in
noncomputable def PrimB (t : Value → Value → Sem Value) (op : BF) : Prop :=
  ∀ A s φ σ a b va vb, Rm A k → Rel g φ σ s.heap → Rep g φ σ.length s.heap a va → Rep g φ σ.length s.heap b vb → Runs prog w g A s φ σ (t va vb) (op a b σ)
variable (prog w g k) in
noncomputable def PrimU (t : Value → Sem Value) (op : UF) : Prop :=
  ∀ A s φ σ a va, Rm A k → Rel g φ σ s.heap → Rep g φ σ.length s.heap a va → Runs prog w g A s φ σ (t va) (op a σ)

/-- two expressions one behind the other -/
theorem sim_two {env A s φ ρ σ f1 f2} {t1 t2 : Expr} {R1 : Value → Value → Sem Value} {op : BF}
    (h1 : SimE prog w g k nms nm t1 f1) (h2 : SimE prog w g k nms nm t2 f2) (hp : PrimB prog w g k R1 op) (eo : EnvOK nms env) (hA : Rm A k) (R : Rel g φ σ s.heap) (F : FrameOK g nm env φ σ.length s.heap ρ)
    {av σ'} (e : binE op f1 f2 ρ σ = some (av, σ')) {Q E : Value → Shared → Prop} (h : ∀ v h' tk φ', Ext g φ σ s.heap φ' σ' h' → Rep g φ' σ'.length h' av v → Q v { s with heap := h', toks := tk }) :
    wpAny (model prog w) A (eval t1 env) (fun a s₁ => wpAny (model prog w) A (eval t2 env) (fun b s₂ => wpAny (model prog w) A (R1 a b) Q E s₂) E s₁) E s := by
  obtain ⟨⟨a, σ1⟩, e1, e⟩ := obind e
  obtain ⟨⟨b, σ2⟩, e2, e3⟩ := obind e
  refine h1 env A s φ ρ σ eo hA R F a σ1 e1 _ _ fun va h₁ tk₁ φ₁ X₁ r₁ => ?_
  refine h2 env A _ φ₁ ρ σ1 eo hA X₁.rel (F.ext X₁) b σ2 e2 _ _ fun vb h₂ tk₂ φ₂ X₂ r₂ => ?_
  refine hp A _ φ₂ σ2 a b va vb hA X₂.rel (r₁.ext X₂) r₂ av σ' e3 _ _ fun v h₃ tk₃ φ₃ X₃ r₃ => ?_
  exact h v h₃ tk₃ φ₃ ((X₁.trans X₂).trans X₃) r₃

theorem sim_bin {l r : Expr} {op : Operator} {pos : Pos} {f1 f2 : EF} {bf : BF} (h1 : SimE prog w g k nms nm l f1) (h2 : SimE prog w g k nms nm r f2) (hp : PrimB prog w g k (binaryOp op) bf) :
    SimE prog w g k nms nm (.BinOp l op r pos) (binE bf f1 f2) :=
  fun _ _ _ _ _ _ eo hA R F _ _ e _ _ h => wpAny_BinOp (sim_two h1 h2 hp eo hA R F e h)
theorem sim_cmp {l r : Expr} {op : CmpOp} {pos : Pos} {f1 f2 : EF} {bf : BF} (h1 : SimE prog w g k nms nm l f1) (h2 : SimE prog w g k nms nm r f2) (hp : PrimB prog w g k (compareOp op) bf)
    (hm : behindInMarks op r = false) : SimE prog w g k nms nm (.Compare l [op] [r] pos) (binE bf f1 f2) :=
  fun _ _ _ _ _ _ eo hA R F _ _ e _ _ h => wpAny_Compare1 (sim_two h1 h2 hp eo hA R F e h) hm
theorem sim_un {x : Expr} {op : UnaryOp} {pos : Pos} {f1 : EF} {uf : UF} (h1 : SimE prog w g k nms nm x f1) (hp : PrimU prog w g k (unaryOp op) uf) :
    SimE prog w g k nms nm (.UnaryOp op x pos) (unE uf f1) := by
  intro env A s φ ρ σ eo hA R F av σ' e Q E h
  obtain ⟨⟨a, σ1⟩, e1, e⟩ := obind e
  refine wpAny_UnaryOp (h1 env A s φ ρ σ eo hA R F a σ1 e1 _ _ fun va h₁ tk₁ φ₁ X₁ r₁ => ?_)
  exact hp A _ φ₁ σ1 a va hA X₁.rel r₁ av σ' e _ _ fun v h₃ tk₃ φ₃ X₃ r₃ => h v h₃ tk₃ φ₃ (X₁.trans X₃) r₃

/-! displays -/
noncomputable def nilEs : EFs := fun _ σ => some ([], σ)
noncomputable def consEs (f : EF) (fs : EFs) : EFs := fun ρ σ => (f ρ σ).bind fun p => (fs ρ p.2).bind fun q => some (p.1 :: q.1, q.2)
theorem sims_nil : SimEs prog w g k nms nm [] nilEs := by
  intro env A s φ ρ σ pos _ _ R F av σ' e Q E h
  (first | obtain ⟨rfl, rfl⟩ := Prod.mk.inj (Option.some.inj e) | cases e)
  exact wpAny_items_nil (h _ s.heap s.toks φ (Ext.refl R) .nil)
theorem sims_cons {e : Expr} {es : List Expr} {f : EF} {fs : EFs} (h1 : SimE prog w g k nms nm e f) (h2 : SimEs prog w g k nms nm es fs)
    (hs : ∀ env, starEach (e :: es) env = (false, eval e env) :: starEach es env) : SimEs prog w g k nms nm (e :: es) (consEs f fs) := by
  intro env A s φ ρ σ pos eo hA R F av σ' e Q E h
  obtain ⟨⟨a, σ1⟩, e1, e⟩ := obind e
  obtain ⟨⟨b, σ2⟩, e2, e3⟩ := obind e
  cases e3
  refine wpAny_items_cons (h1 env A s φ ρ σ eo hA R F a σ1 e1 _ _ fun va h₁ tk₁ φ₁ X₁ r₁ => ?_) (hs env)
  refine h2 env A _ φ₁ ρ σ1 pos eo hA X₁.rel (F.ext X₁) b σ2 e2 _ _ fun vb h₂ tk₂ φ₂ X₂ r₂ => ?_
  exact h _ h₂ tk₂ φ₂ (X₁.trans X₂) (.cons (r₁.ext X₂) r₂)

noncomputable def newL (xs : List AV) (σ : St) : Option (AV × St) := if xs.length ≤ 65536 then some (.ref σ.length, σ ++ [.list xs]) else none
noncomputable def lstE (fs : EFs) : EF := fun ρ σ => (fs ρ σ).bind fun p => newL p.1 p.2
noncomputable def tupE (fs : EFs) : EF := fun ρ σ => (fs ρ σ).bind fun p => if p.1.length ≤ 65536 then some (.tup p.1, p.2) else none

theorem szl {n : Nat} (h : n ≤ 65536) : n ≤ sizeLine := by
  have : sizeLine = 2 ^ 24 := rfl
  (first | lia | omega)

theorem heap_push_none (h : Heap) : h.get? h.objs.size = none := by
  cases e : h.get? h.objs.size with
  | none => rfl
  | some o => exact absurd (Heap.lt_size e) (Nat.lt_irrefl _)

/-- a new list object, pushed -/
theorem Ext.newList {φ σ h} (R : Rel g φ σ h) {xs : List AV} {vs : List Value} (n : Nat) (r : Reps g φ σ.length h xs vs) :
    Ext g φ σ h (φput φ σ.length h.objs.size) (σ ++ [.list xs]) (h.push (lstObj vs n)) ∧ Rep g (φput φ σ.length h.objs.size) (σ ++ [AO.list xs]).length (h.push (lstObj vs n)) (.ref σ.length) (.ref h.objs.size) := by
  have hk : ∀ b o, h.get? b = some o → (h.push (lstObj vs n)).get? b = some o := fun b o e => Heap.get?_push_of_some _ e
  refine ⟨Ext.made R hk (heap_push_none h) (Heap.get?_push_size _ rfl) (ORep.list (r.keeps (fun _ _ => rfl) (Nat.le_refl _) fun a items k e => hk _ _ e)), ?_⟩
  have := Rep.ref (g := g) (φ := φput φ σ.length h.objs.size) (n := (σ ++ [AO.list xs]).length) (h := h.push (lstObj vs n)) σ.length (by simp)
  rw [φput_new] at this
  exact this

theorem Ext.push {φ σ h} (R : Rel g φ σ h) (o : Obj) : Ext g φ σ h φ σ (h.push o) := Ext.grow R fun _ _ e => Heap.get?_push_of_some _ e

theorem sim_list {es : List Expr} {pos : Pos} {fs : EFs} (h1 : SimEs prog w g k nms nm es fs) : SimE prog w g k nms nm (.List es pos) (lstE fs) := by
  intro env A s φ ρ σ eo hA R F av σ' e Q E h
  obtain ⟨⟨xs, σ1⟩, e1, e⟩ := obind e
  unfold newL at e
  dsimp only at e
  split at e
  · rename_i hsz
    (first | obtain ⟨rfl, rfl⟩ := Prod.mk.inj (Option.some.inj e) | cases e)
    refine wpAny_List (h1 env A s φ ρ σ pos eo hA R F xs σ1 e1 _ _ fun vs h₁ tk₁ φ₁ X₁ r₁ => ⟨by rw [r₁.length]; exact szl hsz, ?_⟩)
    obtain ⟨X, r⟩ := Ext.newList X₁.rel 0 r₁
    exact h _ _ tk₁ _ (X₁.trans X) r
  · (first | obtain ⟨rfl, rfl⟩ := Prod.mk.inj (Option.some.inj e) | cases e)
theorem sim_tup {es : List Expr} {kk : Nat} {pos : Pos} {fs : EFs} (h1 : SimEs prog w g k nms nm es fs) : SimE prog w g k nms nm (.Tuple es kk pos) (tupE fs) := by
  intro env A s φ ρ σ eo hA R F av σ' e Q E h
  obtain ⟨⟨xs, σ1⟩, e1, e⟩ := obind e
  dsimp only at e
  split at e
  · rename_i hsz
    injection e with e
    injection e with e2 e3
    subst e2 e3
    refine wpAny_Tuple (h1 env A s φ ρ σ pos eo hA R F xs _ e1 _ _ fun vs h₁ tk₁ φ₁ X₁ r₁ => ⟨by rw [r₁.length]; exact szl hsz, ?_⟩)
    have X := Ext.push X₁.rel (tupObj vs 0)
    exact h _ _ tk₁ φ₁ (X₁.trans X) (.tup (Heap.get?_push_size _ rfl) (r₁.ext X))
  · (first | obtain ⟨rfl, rfl⟩ := Prod.mk.inj (Option.some.inj e) | cases e)

/-! tests -/
variable (prog w g k) in
noncomputable def PrimT (op : AV → St → Option Bool) : Prop :=
  ∀ A s φ σ a va, Rm A k → Rel g φ σ s.heap → Rep g φ σ.length s.heap a va → ∀ b, op a σ = some b → ∀ (Q : Bool → Shared → Prop) (E : Value → Shared → Prop), Q b s → wpAny (model prog w) A (truthy va) Q E s

noncomputable def ifE (t : TF) (f1 f2 : EF) : EF := fun ρ σ => (t ρ σ).bind fun p => if p.1 = true then f1 ρ p.2 else f2 ρ p.2
noncomputable def cmpT (op : BF) (f1 f2 : EF) : TF := fun ρ σ => (binE op f1 f2 ρ σ).bind fun p => match p.1 with | .bool b => some (b, p.2) | _ => none
noncomputable def notT (t : TF) : TF := fun ρ σ => (t ρ σ).bind fun p => some (!p.1, p.2)
noncomputable def orT (t1 t2 : TF) : TF := fun ρ σ => (t1 ρ σ).bind fun p => if p.1 = true then some (true, p.2) else t2 ρ p.2
noncomputable def truthV : AV → St → Option Bool
  | .bool b, _ => some b
  | .int i, _ => some (i != 0)
  | .con .none, _ => some false
  | _, _ => none
noncomputable def valT (f : EF) : TF := fun ρ σ => (f ρ σ).bind fun p => (truthV p.1 p.2).bind fun b => some (b, p.2)
noncomputable def andE (f1 f2 : EF) : EF := fun ρ σ => (f1 ρ σ).bind fun p => (truthV p.1 p.2).bind fun b => if b = true then f2 ρ p.2 else some p
theorem prim_truth : PrimT prog w g k truthV := by
  intro A s φ σ a va hA R r b e Q E h
  cases r with
  | bool b' => (first | obtain ⟨rfl, rfl⟩ := Prod.mk.inj (Option.some.inj e) | cases e); exact wpAny_truthy_bool h
  | int i t =>
    (first | obtain ⟨rfl, rfl⟩ := Prod.mk.inj (Option.some.inj e) | cases e)
    exact truthy_int h
  | con _ =>
    cases va <;> first | cases e | skip
    exact fun Γ p hΓ => h
  | _ => (first | obtain ⟨rfl, rfl⟩ := Prod.mk.inj (Option.some.inj e) | cases e)
theorem sim_ifexp {t b o : Expr} {pos : Pos} {ft : TF} {f1 f2 : EF} (h0 : SimT prog w g k nms nm t ft) (h1 : SimE prog w g k nms nm b f1) (h2 : SimE prog w g k nms nm o f2) :
    SimE prog w g k nms nm (.IfExp t b o pos) (ifE ft f1 f2) := by
  intro env A s φ ρ σ eo hA R F av σ' e Q E h
  obtain ⟨⟨c, σ1⟩, e1, e⟩ := obind e
  refine wpAny_IfExp (h0 env A s φ ρ σ eo hA R F c σ1 e1 _ _ fun h₁ tk₁ φ₁ X₁ => ?_)
  cases c with
  | true => exact h1 env A _ φ₁ ρ σ1 eo hA X₁.rel (F.ext X₁) av σ' e _ _ fun v h₂ tk₂ φ₂ X₂ r₂ => h v h₂ tk₂ φ₂ (X₁.trans X₂) r₂
  | false => exact h2 env A _ φ₁ ρ σ1 eo hA X₁.rel (F.ext X₁) av σ' e _ _ fun v h₂ tk₂ φ₂ X₂ r₂ => h v h₂ tk₂ φ₂ (X₁.trans X₂) r₂
theorem simt_cmp {l r : Expr} {op : CmpOp} {pos : Pos} {f1 f2 : EF} {bf : BF} (h1 : SimE prog w g k nms nm l f1) (h2 : SimE prog w g k nms nm r f2) (hp : PrimB prog w g k (compareOp op) bf)
    (hm : behindInMarks op r = false) : SimT prog w g k nms nm (.Compare l [op] [r] pos) (cmpT bf f1 f2) := by
  intro env A s φ ρ σ eo hA R F b σ' e Q E h
  obtain ⟨⟨a, σ1⟩, e1, e⟩ := obind e
  cases a with
  | bool b' =>
    (first | obtain ⟨rfl, rfl⟩ := Prod.mk.inj (Option.some.inj e) | cases e)
    exact wpAny_isTrue_Compare1 (sim_two h1 h2 hp eo hA R F e1 fun v h' tk φ' X r => by (first | obtain ⟨_, rfl⟩ := r.intI | obtain ⟨_, rfl⟩ := r.strI | obtain rfl := r.nilI | obtain ⟨rfl, _⟩ := r.refI | cases r); exact wpAny_truthy_bool (h h' tk φ' X)) hm
  | _ => (first | obtain ⟨rfl, rfl⟩ := Prod.mk.inj (Option.some.inj e) | cases e)
theorem simt_not {x : Expr} {pos : Pos} {t : TF} (h1 : SimT prog w g k nms nm x t) : SimT prog w g k nms nm (.UnaryOp .Not x pos) (notT t) := by
  intro env A s φ ρ σ eo hA R F b σ' e Q E h
  obtain ⟨⟨a, σ1⟩, e1, e⟩ := obind e
  (first | obtain ⟨rfl, rfl⟩ := Prod.mk.inj (Option.some.inj e) | cases e)
  exact wpAny_isTrue_Not (h1 env A s φ ρ σ eo hA R F a σ1 e1 _ _ fun h' tk φ' X => h h' tk φ' X)
theorem simt_or {x y : Expr} {pos : Pos} {t1 t2 : TF} (h1 : SimT prog w g k nms nm x t1) (h2 : SimT prog w g k nms nm y t2) : SimT prog w g k nms nm (.BoolOp .Or [x, y] pos) (orT t1 t2) := by
  intro env A s φ ρ σ eo hA R F b σ' e Q E h
  obtain ⟨⟨a, σ1⟩, e1, e⟩ := obind e
  refine wpAny_isTrue_BoolOp (wpAny_allTrue_Or_cons (h1 env A s φ ρ σ eo hA R F a σ1 e1 _ _ fun h₁ tk₁ φ₁ X₁ => ?_))
  cases a with
  | false =>
    refine wpAny_allTrue_Or_cons (h2 env A _ φ₁ ρ σ1 eo hA X₁.rel (F.ext X₁) b σ' e _ _ fun h₂ tk₂ φ₂ X₂ => ?_)
    cases b with
    | false => exact wpAny_allTrue_Or_nil (h h₂ tk₂ φ₂ (X₁.trans X₂))
    | true => exact h h₂ tk₂ φ₂ (X₁.trans X₂)
  | true => (first | obtain ⟨rfl, rfl⟩ := Prod.mk.inj (Option.some.inj e) | cases e); exact h h₁ tk₁ φ₁ X₁
/-- any other expression as a test -/
theorem simt_val {x : Expr} {f : EF} (h1 : SimE prog w g k nms nm x f) (he : ∀ env whole, isTrue x env whole = (do let v ← whole; standAt x.pos; holding [v] (truthy v))) : SimT prog w g k nms nm x (valT f) := by
  intro env A s φ ρ σ eo hA R F b σ' e Q E h
  obtain ⟨⟨a, σ1⟩, e1, e⟩ := obind e
  obtain ⟨c, e2, e3⟩ := obind e
  cases e3
  exact wpAny_isTrue_value (h1 env A s φ ρ σ eo hA R F a σ1 e1 _ _ fun v h' tk φ' X r => prim_truth (k := k) A _ φ' σ1 a v hA X.rel r b e2 _ _ (h h' tk φ' X)) (he env _)
theorem sim_and {x y : Expr} {pos : Pos} {f1 f2 : EF} (h1 : SimE prog w g k nms nm x f1) (h2 : SimE prog w g k nms nm y f2) : SimE prog w g k nms nm (.BoolOp .And [x, y] pos) (andE f1 f2) := by
  intro env A s φ ρ σ eo hA R F av σ' e Q E h
  obtain ⟨⟨a, σ1⟩, e1, e⟩ := obind e
  obtain ⟨c, e2, e⟩ := obind e
  refine wpAny_And2 (h1 env A s φ ρ σ eo hA R F a σ1 e1 _ _ fun v h₁ tk₁ φ₁ X₁ r₁ => prim_truth (k := k) A _ φ₁ σ1 a v hA X₁.rel r₁ c e2 _ _ ?_)
  cases c with
  | true => exact h2 env A _ φ₁ ρ σ1 eo hA X₁.rel (F.ext X₁) av σ' e _ _ fun v h₂ tk₂ φ₂ X₂ r₂ => h v h₂ tk₂ φ₂ (X₁.trans X₂) r₂
  | false => (first | obtain ⟨rfl, rfl⟩ := Prod.mk.inj (Option.some.inj e) | cases e); exact h v h₁ tk₁ φ₁ X₁ r₁
/-! subscripts -/
theorem sim_sub {v i : Expr} {pos : Pos} {f1 f2 : EF} {bf : BF} (h1 : SimE prog w g k nms nm v f1) (h2 : SimE prog w g k nms nm i f2) (hp : PrimB prog w g k (subscriptTail v i) bf) :
    SimE prog w g k nms nm (.Subscript v i pos) (binE bf f1 f2) :=
  fun _ _ _ _ _ _ eo hA R F _ _ e _ _ h => Subscript_ (sim_two h1 h2 hp eo hA R F e h)
end
end Mine
end
section
set_option maxRecDepth 100000
namespace Mine

/-! a step that may turn the frame's own objects W -/
structure ExtW (g : Heap) (W : Addr → Prop) (φ : Nat → Addr) (σ : St) (h : Heap) (φ' : Nat → Addr) (σ' : St) (h' : Heap) : Prop where
  rel0 : Rel g φ σ h
  rel : Rel g φ' σ' h'
  agree : ∀ id, id < σ.length → φ' id = φ id
  le : σ.length ≤ σ'.length
  keep : ∀ b o, h.get? b = some o → (∀ id, id < σ.length → φ id ≠ b) → ¬ W b → h'.get? b = some o
  new : ∀ id, σ.length ≤ id → id < σ'.length → h.get? (φ' id) = none
  wd : ∀ b o, W b → h.get? b = some o → (∃ es ep, o.data = .dict es ep) ∨ ∃ v, o.data = .cell v
  live : ∀ b o, h.get? b = some o → ∃ o', h'.get? b = some o'

noncomputable def envW (env : Env) (b : Addr) : Prop := b = env.locals ∨ ∃ x, env.kindOf x = some .cell ∧ env.cells.lookup x = some b

/-- the frame object and the cells of these names -/
noncomputable def tgtW (env : Env) (xs : List Str) (b : Addr) : Prop := b = env.locals ∨ ∃ x, x ∈ xs ∧ env.kindOf x = some .cell ∧ env.cells.lookup x = some b
theorem tgtW.up {env xs b} (h : tgtW env xs b) : envW env b := h.imp (fun e => e) fun ⟨x, _, h1, h2⟩ => ⟨x, h1, h2⟩

noncomputable abbrev WD (W : Addr → Prop) (h : Heap) : Prop := ∀ b o, W b → h.get? b = some o → (∃ es ep, o.data = .dict es ep) ∨ ∃ v, o.data = .cell v
theorem WD.tup {W h} (x : WD W h) : ∀ b items k, W b → h.get? b ≠ some (tupObj items k) := by
  intro b items k hw e
  rcases x b _ hw e with ⟨es, ep, hd⟩ | ⟨v, hd⟩ <;> cases hd
theorem FrameOK.wk {g nm env φ n h ρ} (F : FrameOK g nm env φ n h ρ) : WD (envW env) h := by
  rintro b ob (rfl | ⟨x, hx, hc⟩) e
  · obtain ⟨m, ⟨o, es, ep, eo, ed, _⟩, _⟩ := F.vars
    rw [eo] at e; (first | obtain ⟨rfl, rfl⟩ := Prod.mk.inj (Option.some.inj e) | cases e); exact .inl ⟨es, ep, ed⟩
  · obtain ⟨c, ov, h1, ⟨o, eo, ed⟩, _⟩ := F.cells x hx
    rw [hc] at h1; cases h1
    rw [eo] at e; (first | obtain ⟨rfl, rfl⟩ := Prod.mk.inj (Option.some.inj e) | cases e); exact .inr ⟨ov, ed⟩

theorem FrameOK.wkT {g nm env φ n h ρ} (F : FrameOK g nm env φ n h ρ) (xs : List Str) : WD (tgtW env xs) h := fun b o hw e => F.wk b o hw.up e

theorem Ext.live {g φ σ h φ' σ' h'} (X : Ext g φ σ h φ' σ' h') : ∀ b o, h.get? b = some o → ∃ o', h'.get? b = some o' := by
  intro b o e
  by_cases hm : ∃ id, id < σ.length ∧ φ id = b
  · obtain ⟨id, hid, rfl⟩ := hm
    have hid' := Nat.lt_of_lt_of_le hid X.le
    obtain ⟨ob, hob, _⟩ := X.rel.objs id (σ'[id]'hid') (List.getElem?_eq_getElem hid')
    rw [X.agree id hid] at hob
    exact ⟨ob, hob⟩
  · exact ⟨o, X.keep b o e fun id hid he => hm ⟨id, hid, he⟩⟩

theorem Ext.toW {g W φ σ h φ' σ' h'} (X : Ext g φ σ h φ' σ' h') (wk : WD W h) : ExtW g W φ σ h φ' σ' h' :=
  ⟨X.rel0, X.rel, X.agree, X.le, fun b o e h1 _ => X.keep b o e h1, X.new, wk, X.live⟩

theorem ExtW.tup {g W φ σ h φ' σ' h'} (X : ExtW g W φ σ h φ' σ' h') {a items k} (e : h.get? a = some (tupObj items k)) : h'.get? a = some (tupObj items k) :=
  X.keep a _ e (X.rel0.apart e (not_mut_tup _ _)) fun hw => WD.tup X.wd a items k hw e
theorem ExtW.fields {g W φ σ h φ' σ' h'} (X : ExtW g W φ σ h φ' σ' h') {a o vs} (e : h.get? a = some o) (hd : o.data = .fields vs) : h'.get? a = some o :=
  X.keep a _ e (X.rel0.apart e (not_mut_fields hd)) fun hw => by rcases X.wd a o hw e with ⟨es, ep, h1⟩ | ⟨v, h1⟩ <;> rw [hd] at h1 <;> cases h1
theorem Rep.extW {g W φ σ h φ' σ' h'} (X : ExtW g W φ σ h φ' σ' h') {a v} (r : Rep g φ σ.length h a v) : Rep g φ' σ'.length h' a v := r.keeps X.agree X.le fun _ _ _ => X.tup
theorem Reps.extW {g W φ σ h φ' σ' h'} (X : ExtW g W φ σ h φ' σ' h') {a v} (r : Reps g φ σ.length h a v) : Reps g φ' σ'.length h' a v := r.keeps X.agree X.le fun _ _ _ => X.tup

theorem ExtW.trans {g W φ σ h φ' σ' h' φ'' σ'' h''} (X : ExtW g W φ σ h φ' σ' h') (Y : ExtW g W φ' σ' h' φ'' σ'' h'') : ExtW g W φ σ h φ'' σ'' h'' := by
  refine ⟨X.rel0, Y.rel, fun id hid => (Y.agree id (Nat.lt_of_lt_of_le hid X.le)).trans (X.agree id hid), Nat.le_trans X.le Y.le, fun b o e hb hw => ?_, fun id h1 h2 => ?_, X.wd, fun b o e => ?_⟩
  · refine Y.keep b o (X.keep b o e hb hw) (fun id hid hφ => ?_) hw
    by_cases hlt : id < σ.length
    · exact hb id hlt (by rw [← X.agree id hlt]; exact hφ)
    · have := X.new id (Nat.not_lt.mp hlt) hid
      rw [hφ, e] at this
      cases this
  · by_cases hlt : id < σ'.length
    · rw [Y.agree id hlt]
      exact X.new id h1 hlt
    · have hn := Y.new id (Nat.not_lt.mp hlt) h2
      cases hq : h.get? (φ'' id) with
      | none => rfl
      | some o =>
        obtain ⟨o', e'⟩ := X.live _ _ hq
        rw [hn] at e'
        cases e'
  · obtain ⟨o', e'⟩ := X.live b o e
    exact Y.live b o' e'

theorem ExtW.mono {g W W' φ σ h φ' σ' h'} (X : ExtW g W φ σ h φ' σ' h') (hw : ∀ b, W b → W' b) (wk : WD W' h) : ExtW g W' φ σ h φ' σ' h' :=
  ⟨X.rel0, X.rel, X.agree, X.le, fun b o e h1 h2 => X.keep b o e h1 fun h => h2 (hw b h), X.new, wk, X.live⟩
theorem ExtW.up {g env xs φ σ h φ' σ' h'} (X : ExtW g (tgtW env xs) φ σ h φ' σ' h') (wk : WD (envW env) h) : ExtW g (envW env) φ σ h φ' σ' h' := X.mono (fun _ => tgtW.up) wk

/-- one of the frame's own objects turned -/
theorem ExtW.own {g φ σ h h'} {W : Addr → Prop} {L : Addr} (R : Rel g φ σ h) (wk : WD W h) (hW : W L) {o : Obj} (eo : h.get? L = some o) (hm : ¬ mutObj o) (hg : g.get? L = none)
    {o' : Obj} (eo' : h'.get? L = some o') (hs : Heap.SameBut L h h') : ExtW g W φ σ h φ σ h' := by
  have hne : ∀ id, id < σ.length → φ id ≠ L := R.apart eo hm
  have other : ∀ b ob, b ≠ L → h.get? b = some ob → h'.get? b = some ob := fun b ob hb e => hs.extBut b ob hb e
  have htup : ∀ a items k, h.get? a = some (tupObj items k) → h'.get? a = some (tupObj items k) := fun a items k e => other a _ (fun hb => wk.tup a items k (hb ▸ hW) e) e
  refine ⟨R, ⟨fun id ob e => ?_, R.inj, fun b ob e => other b ob (fun hb => by rw [hb, hg] at e; cases e) (R.base b ob e), R.fresh⟩, fun _ _ => rfl, Nat.le_refl _, fun b ob e _ hw => other b ob (fun hb => hw (hb ▸ hW)) e,
    fun _ h1 h2 => absurd h2 (Nat.not_lt.mpr h1), wk, fun b ob e => ?_⟩
  · obtain ⟨ob', hob, hr⟩ := R.objs id ob e
    exact ⟨ob', other _ _ (hne id (List.getElem?_eq_some_iff.mp e).1) hob, hr.keeps (fun _ _ => rfl) (Nat.le_refl _) htup⟩
  · by_cases hb : b = L
    · subst hb; exact ⟨o', eo'⟩
    · exact ⟨ob, other b ob hb e⟩

/-! storing a name -/
noncomputable def Fm.put (ρ : Fm) (i : Nat) (a : AV) : Fm := ρ.set i (some a)
theorem Fm.get_put {ρ : Fm} {i j : Nat} {a b : AV} (h : Fm.get (Fm.put ρ i a) j = some b) : (j = i ∧ b = a) ∨ (j ≠ i ∧ Fm.get ρ j = some b) := by
  unfold Fm.get Fm.put at h
  rw [List.getD_eq_getElem?_getD, List.getElem?_set] at h
  by_cases hij : i = j
  · subst hij
    rw [if_pos rfl] at h
    split at h
    · exact .inl ⟨rfl, by simpa using h.symm⟩
    · cases h
  · rw [if_neg hij] at h
    exact .inr ⟨fun e => hij e.symm, by unfold Fm.get; rw [List.getD_eq_getElem?_getD]; exact h⟩

section
variable {prog : Program} {w : World} {g : Heap} {k : Nat} {nms : List (Str × NameKind)} {nm : List Str}

noncomputable def stKind (nms : List (Str × NameKind)) (x : Str) : Bool := nms.lookup x == some .local || nms.lookup x == some .cell

theorem sim_store {env A s φ ρ σ a va i x} (eo : EnvOK nms env) (R : Rel g φ σ s.heap) (F : FrameOK g nm env φ σ.length s.heap ρ) (r : Rep g φ σ.length s.heap a va) (hx : nm[i]? = some x) (hk : stKind nms x = true) (hnd : nm.Nodup) {xs : List Str} (hxs : x ∈ xs)
    {Q : Unit → Shared → Prop} {E : Value → Shared → Prop} (h : ∀ h' tk, ExtW g (tgtW env xs) φ σ s.heap φ σ h' → FrameOK g nm env φ σ.length h' (Fm.put ρ i a) → Q () { s with heap := h', toks := tk }) :
    wpAny (model prog w) A (storeName env x va) Q E s := by
  have hkd : env.kindOf x = some .local ∨ env.kindOf x = some .cell := by
    unfold stKind at hk
    rw [Bool.or_eq_true, beq_iff_eq, beq_iff_eq] at hk
    unfold Env.kindOf
    rw [eo.names]; exact hk
  have hpl : (env.scope.kind == .class || (env.scope.kind == .module && env.locals != env.globals)) = false := by rw [eo.kind]; rfl
  have hinj : ∀ j y, j ≠ i → nm[j]? = some y → y ≠ x := by
    intro j y hji hy hyx
    subst hyx
    exact hji ((List.getElem?_inj (List.getElem?_eq_some_iff.mp hy).1 hnd).mp (hy.trans hx.symm))
  obtain ⟨m, hn, hm⟩ := F.vars
  rcases hkd with hl | hl
  · refine wpAny_storeName_local hl hn (fun h' hn' hs => ?_) hpl
    obtain ⟨o, es, ep, eo1, ed, _⟩ := id hn
    obtain ⟨o', es', ep', eo2, ed', _⟩ := id hn'
    have X := ExtW.own R (F.wkT xs) (.inl rfl) eo1 (not_mut_dict ed) F.lf eo2 hs
    refine h h' _ X ⟨⟨_, hn', fun j av e => ?_⟩, fun y hy => ?_, F.lf⟩
    · rcases Fm.get_put e with ⟨rfl, rfl⟩ | ⟨hj, e⟩
      · exact ⟨x, hx, .inl ⟨hl, va, if_pos rfl, r.extW X⟩⟩
      · obtain ⟨y, hy, hv⟩ := hm j av e
        have hne := hinj j y hj hy
        refine ⟨y, hy, hv.imp (fun ⟨h1, v, h2, h3⟩ => ⟨h1, v, (if_neg hne).trans h2, h3.extW X⟩) fun ⟨h1, c, v, h2, ⟨oc, h3, h4⟩, h5⟩ => ⟨h1, c, v, h2, ⟨oc, (hs.2 c ?_).trans h3, h4⟩, h5.extW X⟩⟩
        intro hc
        rw [hc, eo1] at h3; cases h3; rw [ed] at h4; cases h4
    · obtain ⟨c, ov, h1, ⟨oc, h2, h3⟩, h4⟩ := F.cells y hy
      refine ⟨c, ov, h1, ⟨oc, (hs.2 c ?_).trans h2, h3⟩, h4⟩
      intro hc
      rw [hc, eo1] at h2; cases h2; rw [ed] at h3; cases h3
  · obtain ⟨c, ov, hc, hcell, hgc⟩ := F.cells x hl
    refine wpAny_storeName_cell eo.kind hl hc hcell fun h' hcell' hs => ?_
    obtain ⟨o, eo1, ed⟩ := id hcell
    obtain ⟨o', eo2, ed'⟩ := id hcell'
    have X := ExtW.own R (F.wkT xs) (.inr ⟨x, hxs, hl, hc⟩) eo1 (not_mut_cell ed) hgc eo2 hs
    have hLc : env.locals ≠ c := by
      obtain ⟨oL, es, ep, e1, e2, _⟩ := hn
      intro e
      rw [e, eo1] at e1; cases e1; rw [ed] at e2; cases e2
    refine h h' s.toks X ⟨⟨m, hn.sameBut hs hLc, fun j av e => ?_⟩, fun y hy => ?_, F.lf⟩
    · rcases Fm.get_put e with ⟨rfl, rfl⟩ | ⟨hj, e⟩
      · exact ⟨x, hx, .inr ⟨hl, c, va, hc, hcell', r.extW X⟩⟩
      · obtain ⟨y, hy, hv⟩ := hm j av e
        have hne := hinj j y hj hy
        refine ⟨y, hy, hv.imp (fun ⟨h1, v, h2, h3⟩ => ⟨h1, v, h2, h3.extW X⟩) fun ⟨h1, c', v, h2, h3, h5⟩ => ⟨h1, c', v, h2, h3.sameBut hs ?_, h5.extW X⟩⟩
        rintro rfl
        exact hne (eo.apart y x c' h2 hc)
    · by_cases hyx : y = x
      · subst hyx
        exact ⟨c, some va, hc, hcell', hgc⟩
      · obtain ⟨c', ov', h1, h2, h4⟩ := F.cells y hy
        refine ⟨c', ov', h1, h2.sameBut hs ?_, h4⟩
        rintro rfl
        exact hyx (eo.apart y x c' h1 hc)

/-! statements -/
inductive Fl where
  | next | brk | cont
  | ret (v : AV)
inductive FlRep (g : Heap) (φ : Nat → Addr) (n : Nat) (h : Heap) : Fl → Flow → Prop
  | next : FlRep g φ n h .next .next
  | brk : FlRep g φ n h .brk .brk
  | cont : FlRep g φ n h .cont .cont
  | ret {a v} (r : Rep g φ n h a v) : FlRep g φ n h (.ret a) (.ret v)
noncomputable abbrev SF := Fm → St → Option (Fl × Fm × St)

variable (prog w g) in
noncomputable def RunsS (nm : List Str) (env : Env) (A : Around) (s : Shared) (φ : Nat → Addr) (σ : St) (t : Sem Flow) (r : Option (Fl × Fm × St)) : Prop :=
  ∀ fl ρ' σ', r = some (fl, ρ', σ') → ∀ (Q : Flow → Shared → Prop) (E : Value → Shared → Prop),
    (∀ flc h' tk φ', ExtW g (envW env) φ σ s.heap φ' σ' h' → FlRep g φ' σ'.length h' fl flc → FrameOK g nm env φ' σ'.length h' ρ' → Q flc { s with heap := h', toks := tk }) → wpAny (model prog w) A t Q E s
variable (prog w g) in
noncomputable def SimS (k : Nat) (nms : List (Str × NameKind)) (nm : List Str) (st : Stmt) (f : SF) : Prop :=
  ∀ env A s φ ρ σ, EnvOK nms env → Rm A k → Rel g φ σ s.heap → FrameOK g nm env φ σ.length s.heap ρ → RunsS prog w g nm env A s φ σ (exec st env) (f ρ σ)
variable (prog w g) in
noncomputable def SimSs (k : Nat) (nms : List (Str × NameKind)) (nm : List Str) (sts : List Stmt) (f : SF) : Prop :=
  ∀ env A s φ ρ σ, EnvOK nms env → Rm A k → Rel g φ σ s.heap → FrameOK g nm env φ σ.length s.heap ρ → RunsS prog w g nm env A s φ σ (execs sts env) (f ρ σ)

noncomputable def skipS : SF := fun ρ σ => some (.next, ρ, σ)
noncomputable def seqS (f fs : SF) : SF := fun ρ σ => (f ρ σ).bind fun p => match p.1 with | .next => fs p.2.1 p.2.2 | _ => some p
theorem simss_nil : SimSs prog w g k nms nm [] skipS := by
  intro env A s φ ρ σ eo hA R F fl ρ' σ' e Q E h
  (first | obtain ⟨rfl, rfl⟩ := Prod.mk.inj (Option.some.inj e) | cases e)
  exact wpAny_execs_nil (h _ s.heap s.toks φ ((Ext.refl R).toW F.wk) .next F)
theorem simss_cons {st : Stmt} {sts : List Stmt} {f fs : SF} (h1 : SimS prog w g k nms nm st f) (h2 : SimSs prog w g k nms nm sts fs) : SimSs prog w g k nms nm (st :: sts) (seqS f fs) := by
  intro env A s φ ρ σ eo hA R F fl ρ' σ' e Q E h
  obtain ⟨⟨c, ρ1, σ1⟩, e1, e⟩ := obind e
  refine wpAny_execs_cons (h1 env A s φ ρ σ eo hA R F c ρ1 σ1 e1 _ _ fun flc h₁ tk₁ φ₁ X₁ r₁ F₁ => ?_)
  cases r₁ with
  | next => exact h2 env A _ φ₁ ρ1 σ1 eo hA X₁.rel F₁ fl ρ' σ' e _ _ fun flc h₂ tk₂ φ₂ X₂ r₂ F₂ => h flc h₂ tk₂ φ₂ (X₁.trans X₂) r₂ F₂
  | brk => (first | obtain ⟨rfl, rfl⟩ := Prod.mk.inj (Option.some.inj e) | cases e); exact h _ h₁ tk₁ φ₁ X₁ .brk F₁
  | cont => (first | obtain ⟨rfl, rfl⟩ := Prod.mk.inj (Option.some.inj e) | cases e); exact h _ h₁ tk₁ φ₁ X₁ .cont F₁
  | ret r => (first | obtain ⟨rfl, rfl⟩ := Prod.mk.inj (Option.some.inj e) | cases e); exact h _ h₁ tk₁ φ₁ X₁ (.ret r) F₁

noncomputable def asgS (i : Nat) (f : EF) : SF := fun ρ σ => (f ρ σ).bind fun p => some (.next, Fm.put ρ i p.1, p.2)
theorem sims_assign {x : Str} {px pos : Pos} {e : Expr} (i : Nat) {f : EF} (h1 : SimE prog w g k nms nm e f) (hx : nm[i]? = some x) (hk : stKind nms x = true) (hnd : nm.Nodup)
    (hs : ∀ env, swapsWith e (some (.Name x px)) pos.line env = pure false) : SimS prog w g k nms nm (.Assign [.Name x px] e pos) (asgS i f) := by
  intro env A s φ ρ σ eo hA R F fl ρ' σ' e Q E h
  obtain ⟨⟨a, σ1⟩, e1, e⟩ := obind e
  (first | obtain ⟨rfl, rfl⟩ := Prod.mk.inj (Option.some.inj e) | cases e)
  refine wpAny_Assign_Name (h1 env A s φ ρ σ eo hA R F a _ e1 _ _ fun v h₁ tk₁ φ₁ X₁ r₁ => ?_) (hs env)
  exact sim_store eo X₁.rel (F.ext X₁) r₁ hx hk hnd (List.mem_singleton_self x) fun h₂ tk₂ X₂ F₂ => h _ h₂ tk₂ φ₁ ((X₁.toW F.wk).trans (X₂.up (F.ext X₁).wk)) .next F₂

noncomputable def augS (i : Nat) (op : BF) (f : EF) : SF := fun ρ σ => (Fm.get ρ i).bind fun a => (f ρ σ).bind fun p => (op a p.1 p.2).bind fun q => some (.next, Fm.put ρ i q.1, q.2)
theorem sims_aug {x : Str} {px pos : Pos} {op : Operator} {ex : Expr} (i : Nat) {f : EF} {bf : BF} (h1 : SimE prog w g k nms nm ex f) (hp : PrimB prog w g k (inplaceOp op) bf) (hx : nm[i]? = some x) (hk : stKind nms x = true) (hnd : nm.Nodup) :
    SimS prog w g k nms nm (.AugAssign (.Name x px) op ex pos) (augS i bf f) := by
  intro env A s φ ρ σ eo hA R F fl ρ' σ' e Q E h
  obtain ⟨a0, e0, e⟩ := obind e
  obtain ⟨⟨a, σ1⟩, e1, e⟩ := obind e
  obtain ⟨⟨a2, σ2⟩, e2, e⟩ := obind e
  (first | obtain ⟨rfl, rfl⟩ := Prod.mk.inj (Option.some.inj e) | cases e)
  refine wpAny_AugAssign_Name ?_
  obtain ⟨m, hn, hm⟩ := F.vars
  obtain ⟨x', hx', hv⟩ := hm i a0 e0
  rw [hx] at hx'
  cases hx'
  have rest : ∀ v0, Rep g φ σ.length s.heap a0 v0 → wpAny (model prog w) A (eval ex env) (fun v s₂ => wpAny (model prog w) A (inplaceOp op v0 v) (fun r s₃ => wpAny (model prog w) A (storeName env x r) (fun _ => Q .next) E s₃) E s₂) E s := by
    intro v0 r0
    refine h1 env A s φ ρ σ eo hA R F a _ e1 _ _ fun v h₁ tk₁ φ₁ X₁ r₁ => ?_
    refine hp A _ φ₁ σ1 a0 a v0 v hA X₁.rel (r0.ext X₁) r₁ a2 _ e2 _ _ fun v2 h₂ tk₂ φ₂ X₂ r₂ => ?_
    exact sim_store eo X₂.rel ((F.ext X₁).ext X₂) r₂ hx hk hnd (List.mem_singleton_self x) fun h₃ tk₃ X₃ F₃ => h _ h₃ tk₃ φ₂ (((X₁.trans X₂).toW F.wk).trans (X₃.up ((F.ext X₁).ext X₂).wk)) .next F₃
  rcases hv with ⟨hl, v0, hmv, hr⟩ | ⟨hl, c, v0, hc, hcell, hr⟩
  · exact wpAny_loadName_local eo.kind hl hn hmv (rest v0 hr)
  · exact wpAny_loadName_cell eo.kind hl hc hcell (rest v0 hr)

noncomputable def ifS (t : TF) (f1 f2 : SF) : SF := fun ρ σ => (t ρ σ).bind fun p => if p.1 = true then f1 ρ p.2 else f2 ρ p.2
theorem sims_if {t : Expr} {b o : List Stmt} {pos : Pos} {ft : TF} {f1 f2 : SF} (h0 : SimT prog w g k nms nm t ft) (h1 : SimSs prog w g k nms nm b f1) (h2 : SimSs prog w g k nms nm o f2) :
    SimS prog w g k nms nm (.If t b o pos) (ifS ft f1 f2) := by
  intro env A s φ ρ σ eo hA R F fl ρ' σ' e Q E h
  obtain ⟨⟨c, σ1⟩, e1, e⟩ := obind e
  refine wpAny_If (h0 env A s φ ρ σ eo hA R F c σ1 e1 _ _ fun h₁ tk₁ φ₁ X₁ => ?_)
  cases c with
  | true => exact h1 env A _ φ₁ ρ σ1 eo hA X₁.rel (F.ext X₁) fl ρ' σ' e _ _ fun flc h₂ tk₂ φ₂ X₂ r₂ F₂ => h flc h₂ tk₂ φ₂ ((X₁.toW F.wk).trans X₂) r₂ F₂
  | false => exact h2 env A _ φ₁ ρ σ1 eo hA X₁.rel (F.ext X₁) fl ρ' σ' e _ _ fun flc h₂ tk₂ φ₂ X₂ r₂ F₂ => h flc h₂ tk₂ φ₂ ((X₁.toW F.wk).trans X₂) r₂ F₂
noncomputable def retS (f : EF) : SF := fun ρ σ => (f ρ σ).bind fun p => some (.ret p.1, ρ, p.2)
theorem sims_ret {e : Expr} {pos : Pos} {f : EF} (h1 : SimE prog w g k nms nm e f) : SimS prog w g k nms nm (.Return (some e) pos) (retS f) := by
  intro env A s φ ρ σ eo hA R F fl ρ' σ' e Q E h
  obtain ⟨⟨a, σ1⟩, e1, e⟩ := obind e
  (first | obtain ⟨rfl, rfl⟩ := Prod.mk.inj (Option.some.inj e) | cases e)
  exact wpAny_Return_some (h1 env A s φ ρ σ eo hA R F a _ e1 _ _ fun v h₁ tk₁ φ₁ X₁ r₁ => h _ h₁ tk₁ φ₁ (X₁.toW F.wk) (.ret r₁) (F.ext X₁))
noncomputable def brkS : SF := fun ρ σ => some (.brk, ρ, σ)
theorem sims_break {pos : Pos} : SimS prog w g k nms nm (.Break pos) brkS := by
  intro env A s φ ρ σ eo hA R F fl ρ' σ' e Q E h
  (first | obtain ⟨rfl, rfl⟩ := Prod.mk.inj (Option.some.inj e) | cases e)
  exact wpAny_Break (h _ s.heap s.toks φ ((Ext.refl R).toW F.wk) .brk F)
/-- a statement that is never reached -/
noncomputable def noneS : SF := fun _ _ => none
theorem sims_never {st : Stmt} : SimS prog w g k nms nm st noneS := by
  intro env A s φ ρ σ eo hA R F fl ρ' σ' e
  (first | obtain ⟨rfl, rfl⟩ := Prod.mk.inj (Option.some.inj e) | cases e)
/-- an expression as a statement; it answers None -/
noncomputable def exprS (f : EF) : SF := fun ρ σ => (f ρ σ).bind fun p => match p.1 with | .con .none => some (.next, ρ, p.2) | _ => none
theorem sims_expr {e : Expr} {pos : Pos} {f : EF} (h1 : SimE prog w g k nms nm e f) (hi : ∀ env, EnvOK nms env → interactive env = false) (hs : ∀ env, swapsWith e none pos.line env = pure false) : SimS prog w g k nms nm (.Expr e pos) (exprS f) := by
  intro env A s φ ρ σ eo hA R F fl ρ' σ' e Q E h
  obtain ⟨⟨a, σ1⟩, e1, e⟩ := obind e
  dsimp only at e
  split at e
  · injection e with e
    injection e with e2 e3
    injection e3 with e3 e4
    subst e2 e3 e4
    refine wpAny_Expr (h1 env A s φ ρ σ eo hA R F _ _ e1 _ _ fun v h₁ tk₁ φ₁ X₁ r₁ => ?_) (hi env eo) (hs env)
    (first | obtain ⟨_, rfl⟩ := r₁.intI | obtain ⟨_, rfl⟩ := r₁.strI | obtain rfl := r₁.nilI | obtain ⟨rfl, _⟩ := r₁.refI | cases r₁)
    exact h _ h₁ tk₁ φ₁ (X₁.toW F.wk) .next (F.ext X₁)
  · (first | obtain ⟨rfl, rfl⟩ := Prod.mk.inj (Option.some.inj e) | cases e)
end
end Mine
end
section
set_option maxRecDepth 100000
namespace Mine
open PySem.W.KBw
/-! enumerate over bytes -/
noncomputable abbrev bytIt (b : Array UInt8) (t : Tok) : Obj := { cls := .type "bytes_iterator", data := .fields #[.bytes b t, .int 0 0] }
set_option maxHeartbeats 1000000 in
theorem enum_newB (b : Array UInt8) (t : Tok) :
    Meets (Builtin.«enumerate.__new__» ⟨[.type "enumerate", .bytes b t], []⟩) (fun _ R s =>
      R (.ok (.ret (.ref (s.heap.push (bytIt b t)).objs.size))) { s with heap := (s.heap.push (bytIt b t)).push { cls := .type "enumerate", data := .fields #[.none, .bool false, .ref s.heap.objs.size, rawInt 0, .none, .none] } }) :=
  .of_wp fun prog w A R s h => by
    obtain ⟨hp, g, d, tk, os⟩ := s
    have hsub := sub_enumerate
    wp_walk
    refine wpAny_stack_any fun st => wpAny_pure ?_
    split
    · rename_i c _ _ _ _ _
      cases (c == Value.type "enumerate")
      · wp_walk using pyIter_bytes
        exact ⟨_, rfl, h⟩
      · wp_walk using pyIter_bytes
        exact ⟨_, rfl, h⟩
    · wp_walk using pyIter_bytes
      exact ⟨_, rfl, h⟩
section
variable {prog : Program} {w : World} {A : Around} {E : Value → Shared → Prop} {s : Shared} {b : Array UInt8} {t : Tok}
theorem call_enumB {Q : Value → Shared → Prop}
    (h : ∀ h', IsEnum h' (s.heap.objs.size + 1) s.heap.objs.size 0 .none → IsBytesIter h' s.heap.objs.size b t 0 → (∀ c o, s.heap.get? c = some o → h'.get? c = some o) → Q (.ref (s.heap.objs.size + 1)) { s with heap := h' }) :
    wpAny (model prog w) A (call (.type "enumerate") [.bytes b t]) Q E s := by
  refine callType_new F.called_enumerate (by decide) (F.typeCall_enumerate_1 _) (F.newCall_enumerate_1 _) (fun obj => F.args_object_init_2 obj _) F.entry_enumerate_new (enum_newB b t) ?_
  have hz : (s.heap.push (bytIt b t)).objs.size = s.heap.objs.size + 1 := Heap.size_push ..
  show _ ∧ _
  rw [hz]
  have he : IsEnum ((s.heap.push (bytIt b t)).push { cls := .type "enumerate", data := .fields #[.none, .bool false, .ref s.heap.objs.size, rawInt 0, .none, .none] }) (s.heap.objs.size + 1) s.heap.objs.size 0 .none := by
    have := Heap.get?_push_size (s.heap.push (bytIt b t)) (o := { cls := .type "enumerate", data := .fields #[.none, .bool false, .ref s.heap.objs.size, rawInt 0, .none, .none] }) rfl
    rw [hz] at this; exact this
  exact ⟨⟨_, he, rfl⟩, h _ he ⟨_, Heap.get?_push_of_some _ (Heap.get?_push_size _ rfl), rfl, rfl⟩ fun c o y => Heap.get?_push_of_some _ (Heap.get?_push_of_some _ y)⟩
theorem nextB_item {it : Addr} {i : Nat} {c : UInt8} {Q : Value → Shared → Prop} (hit : IsBytesIter s.heap it b t i) (hx : b[i]? = some c)
    (hQ : ∀ h', IsBytesIter h' it b t (i + 1) → Heap.SameBut it s.heap h' → Q (.int (c.toNat : Int) s.toks) { s with heap := h', toks := s.toks + 1 }) : wpAny (model prog w) A (Builtin.SmallTypes.nextOf (.ref it)) Q E s := by
  obtain ⟨o, ho, hc, hd⟩ := id hit
  unfold Builtin.SmallTypes.nextOf
  refine wpAny_bind (wpAny_callSpecial?_slot (name := Str.ofString "__next__") (iter_typeIs hit) slot_next (wpAny_call_entry slot_next (iter_typeIs hit) entry_next ?_ (args_next _)))
  show wpAny _ _ (field (.ref it) 0 >>= _) _ _ s
  refine wpAny_bind (wpAny_field ho hd (x := .bytes b t) rfl ?_)
  show wpAny _ _ (if (Value.bytes b t == Value.none) = true then _ else _) _ _ s
  rw [if_neg (show ¬ ((Value.bytes b t == Value.none) = true) from Bool.false_ne_true)]
  show wpAny _ _ (field (.ref it) 1 >>= _) _ _ s
  refine wpAny_bind (wpAny_field ho hd (x := .int i 0) rfl ?_)
  refine wpAny_bind (wpAny_of_eq (a := b) rfl ?_)
  simp only [Int.toNat_natCast, hx]
  refine wpAny_bind (wpAny_setField ho hd (by simp) (wpAny_bind (wpAny_mkInt (wpAny_pure ⟨_, rfl, wpAny_pure (hQ _ ?_ (Heap.SameBut.update ..))⟩))))
  exact ⟨_, Heap.get?_update_self _ ho (Obj.isFreed_of_fields (Obj.data_mapFields hd _)), (Obj.cls_mapFields ..).trans hc, by
    rw [Obj.data_mapFields hd]; simp [rawInt]⟩
theorem nextB_end {it : Addr} {i : Nat} {Q : Value → Shared → Prop} (hh : A.handled = none) (hit : IsBytesIter s.heap it b t i) (hx : b[i]? = none)
    (hE : ∀ h' e, Heap.ExtBut it s.heap h' → (∃ o, h'.get? e = some o ∧ o.cls = .type "StopIteration") → E (.ref e) { s with heap := h' }) : wpAny (model prog w) A (Builtin.SmallTypes.nextOf (.ref it)) Q E s := by
  obtain ⟨o, ho, hc, hd⟩ := id hit
  unfold Builtin.SmallTypes.nextOf
  refine wpAny_bind (wpAny_callSpecial?_slot (name := Str.ofString "__next__") (iter_typeIs hit) slot_next (wpAny_call_entry slot_next (iter_typeIs hit) entry_next ?_ (args_next _)))
  show wpAny _ _ (field (.ref it) 0 >>= _) _ _ s
  refine wpAny_bind (wpAny_field ho hd (x := .bytes b t) rfl ?_)
  show wpAny _ _ (if (Value.bytes b t == Value.none) = true then _ else _) _ _ s
  rw [if_neg (show ¬ ((Value.bytes b t == Value.none) = true) from Bool.false_ne_true)]
  show wpAny _ _ (field (.ref it) 1 >>= _) _ _ s
  refine wpAny_bind (wpAny_field ho hd (x := .int i 0) rfl ?_)
  refine wpAny_bind (wpAny_of_eq (a := b) rfl ?_)
  simp only [Int.toNat_natCast, hx]
  refine wpAny_bind (wpAny_rule (wpAny_bind (wpAny_setField ho hd (by simp) ?_)))
  show wpAny _ _ (newExc (.type "StopIteration") [] >>= _) _ _ _
  refine wpAny_bind ?_
  simp only [newExc, newTuple]
  refine wpAny_bind (wpAny_newObj_type ?_ (by size_fits))
  refine wpAny_bind (m := firstArgMember _ _) (wpAny_of_eq (a := Value.none) (by first | rfl | (simp only [firstArgMember]; rfl)) ?_)
  refine wpAny_newObj_type ?_ (by size_fits)
  simp only [raiseNew]
  refine wpAny_bind (wpAny_handled ?_)
  first | rw [show A.in1.handled = none from hh] | rw [hh]
  refine wpAny_bind (wpAny_pure (wpAny_throw ?_))
  exact hE _ _ (((Heap.SameBut.update ..).extBut.push _).push _) ⟨_, Heap.get?_push_size _ rfl, rfl⟩
end
theorem drawsB {prog : Program} {w : World} {A : Around} (hh : A.handled = none) (it : Addr) (b : Array UInt8) (t : Tok) :
    Draws prog w A it [it] b.size (fun i v => ∃ c u, b[i]? = some c ∧ v = .int ((c : UInt8).toNat : Int) u) (fun i h => IsBytesIter h it b t i) where
  live := fun _ _ st => let ⟨o, ho, _⟩ := st; ⟨o, ho⟩
  frame := fun _ _ _ st hk => let ⟨o, ho, r⟩ := st; ⟨o, hk it (by simp) o ho, r⟩
  item := fun i s Q E hi st hQ => by
    refine nextB_item st (c := b[i]) (by simp [hi]) fun h' hit' hs' => ?_
    exact hQ _ h' (s.toks + 1) ⟨_, _, by simp [hi], rfl⟩ hit' hs'
  done := fun s Q E st hE => nextB_end hh st (by simp) hE
end Mine
end
section
set_option maxRecDepth 100000
namespace Mine

/-! a step that turns only the objects J of an iterator -/
noncomputable def Raw (J : List Addr) (h h' : Heap) : Prop := ∀ b o, b ∉ J → h.get? b = some o → h'.get? b = some o
noncomputable def JOK (h : Heap) (J : List Addr) : Prop := ∀ j ∈ J, ∃ o vs, h.get? j = some o ∧ o.data = .fields vs

theorem JOK.off {h J a o} (hJ : JOK h J) (e : h.get? a = some o) (hd : ∀ vs, o.data ≠ .fields vs) : a ∉ J := by
  intro ha
  obtain ⟨o', vs, e', hd'⟩ := hJ a ha
  rw [e] at e'; cases e'
  exact hd vs hd'
theorem JOK.tup {h h' J} (hJ : JOK h J) (hr : Raw J h h') : ∀ a items k, h.get? a = some (tupObj items k) → h'.get? a = some (tupObj items k) := fun a items k e => hr a _ (hJ.off e fun vs h => by cases h) e

theorem Rel.raw {g φ σ h h' J} (R : Rel g φ σ h) (hJ : JOK h J) (hg : ∀ j ∈ J, g.get? j = none) (hr : Raw J h h') : Rel g φ σ h' := by
  refine ⟨fun id o e => ?_, R.inj, fun b o e => hr b o (fun hb => by rw [hg b hb] at e; cases e) (R.base b o e), R.fresh⟩
  obtain ⟨ob, hob, hrep⟩ := R.objs id o e
  refine ⟨ob, hr _ _ (fun hb => ?_) hob, hrep.keeps (fun _ _ => rfl) (Nat.le_refl _) (hJ.tup hr)⟩
  obtain ⟨o', vs, e', hd'⟩ := hJ _ hb
  rw [hob] at e'; cases e'
  exact not_mut_fields hd' hrep.mut
theorem FrameOK.raw {g nm env φ n h h' ρ J} (F : FrameOK g nm env φ n h ρ) (hJ : JOK h J) (hr : Raw J h h') : FrameOK g nm env φ n h' ρ := by
  have hcell : ∀ {c ov}, h.IsCell c ov → h'.IsCell c ov := fun ⟨o, e, d⟩ => ⟨o, hr _ _ (hJ.off e fun vs h => by rw [d] at h; cases h) e, d⟩
  obtain ⟨m, ⟨oL, es, ep, e1, e2, e3⟩, hv⟩ := F.vars
  refine ⟨⟨m, ⟨oL, es, ep, hr _ _ (hJ.off e1 fun vs h => by rw [e2] at h; cases h) e1, e2, e3⟩, fun i av e => ?_⟩, fun x hx => ?_, F.lf⟩
  · obtain ⟨x, hx, hk⟩ := hv i av e
    have kr : ∀ {a v}, Rep g φ n h a v → Rep g φ n h' a v := fun r => r.keeps (fun _ _ => rfl) (Nat.le_refl _) (hJ.tup hr)
    exact ⟨x, hx, hk.imp (fun ⟨a, v, b, c⟩ => ⟨a, v, b, kr c⟩) fun ⟨a, c, v, b, d, r⟩ => ⟨a, c, v, b, hcell d, kr r⟩⟩
  · obtain ⟨c, ov, h1, h2, h3⟩ := F.cells x hx
    exact ⟨c, ov, h1, hcell h2, h3⟩
theorem ExtW.raw {g W φ σ h φ' σ' h' h'' J} (X : ExtW g W φ σ h φ' σ' h') (hJ : JOK h' J) (h0 : ∀ j ∈ J, h.get? j = none) (hr : Raw J h' h'') : ExtW g W φ σ h φ' σ' h'' := by
  have hg : ∀ j ∈ J, g.get? j = none := fun j hj => by
    cases e : g.get? j with
    | none => rfl
    | some o => have := X.rel0.base _ _ e; rw [h0 j hj] at this; cases this
  have off : ∀ b o, h.get? b = some o → b ∉ J := fun b o e hb => by rw [h0 b hb] at e; (first | obtain ⟨rfl, rfl⟩ := Prod.mk.inj (Option.some.inj e) | cases e)
  refine ⟨X.rel0, X.rel.raw hJ hg hr, X.agree, X.le, fun b o e h1 h2 => hr b o (off b o e) (X.keep b o e h1 h2), X.new, X.wd, fun b o e => ?_⟩
  obtain ⟨o', e'⟩ := X.live b o e
  exact ⟨o', hr b o' (off b o e) e'⟩

/-! iterators -/
inductive It where
  | list (id i : Nat)
  | range (cur step : Int) (left : Nat)
  | tup (vs : List AV) (i : Nat)
  | enumL (id i : Nat)
  | enumB (b : List Nat) (i : Nat)
  deriving Inhabited

noncomputable def itNext : It → St → Option (Option (AV × It))
  | .list id i, σ => match σ[id]? with
    | some (.list xs) => match xs[i]? with
      | some x => some (some (x, .list id (i + 1)))
      | none => some none
    | _ => none
  | .range c st n, _ => match n with
    | 0 => some none
    | n + 1 => some (some (.int c, .range (c + st) st n))
  | .tup vs i, _ => match vs[i]? with
    | some x => some (some (x, .tup vs (i + 1)))
    | none => some none
  | .enumL id i, σ => match σ[id]? with
    | some (.list xs) => match xs[i]? with
      | some x => some (some (.tup [.int i, x], .enumL id (i + 1)))
      | none => some none
    | _ => none
  | .enumB b i, _ => match b[i]? with
    | some x => some (some (.tup [.int i, .int (x : Nat)], .enumB b (i + 1)))
    | none => some none

inductive ItOK (g : Heap) (φ : Nat → Addr) (n : Nat) (h : Heap) : It → Addr → List Addr → Prop
  | list {id i I} (hid : id < n) (hI : h.IsListIter I (φ id) i) : ItOK g φ n h (.list id i) I [I]
  | range {c st m I} (hI : IsRangeIter h I c (m : Nat) st) : ItOK g φ n h (.range c st m) I [I]
  | tup {vs items i I t kk} (hI : h.IsTupleIter I t i) (ht : h.get? t = some (tupObj items kk)) (hr : Reps g φ n h vs items) : ItOK g φ n h (.tup vs i) I [I]
  | enumL {id i I it old} (hid : id < n) (hE : IsEnum h I it (i : Nat) old) (hI : h.IsListIter it (φ id) i) (hne : I ≠ it) : ItOK g φ n h (.enumL id i) I [I, it]
  | enumB {b i I it old t} (hE : IsEnum h I it (i : Nat) old) (hI : KBw.IsBytesIter h it (bytesArr b) t i) (hb : ∀ x ∈ b, x < 256) (hle : i ≤ b.length) (hne : I ≠ it) : ItOK g φ n h (.enumB b i) I [I, it]

theorem ItOK.jok {g φ n h it I J} (x : ItOK g φ n h it I J) : JOK h J := by
  intro j hj
  cases x with
  | list hid hI => obtain ⟨o, e, _, d⟩ := hI; cases List.mem_singleton.mp hj; exact ⟨o, _, e, d⟩
  | range hI => cases List.mem_singleton.mp hj; exact ⟨_, _, hI, rfl⟩
  | tup hI ht hr => obtain ⟨o, e, _, d⟩ := hI; cases List.mem_singleton.mp hj; exact ⟨o, _, e, d⟩
  | enumL hid hE hI hne =>
    rcases List.mem_cons.mp hj with rfl | hj
    · exact ⟨_, _, hE, rfl⟩
    · cases List.mem_singleton.mp hj
      obtain ⟨o, e, _, d⟩ := hI
      exact ⟨o, _, e, d⟩
  | enumB hE hI hb hle hne =>
    rcases List.mem_cons.mp hj with rfl | hj
    · exact ⟨_, _, hE, rfl⟩
    · cases List.mem_singleton.mp hj
      obtain ⟨o, e, _, d⟩ := hI
      exact ⟨o, _, e, d⟩

theorem ItOK.extW {g W φ σ h φ' σ' h' it I J} (X : ExtW g W φ σ h φ' σ' h') (x : ItOK g φ σ.length h it I J) : ItOK g φ' σ'.length h' it I J := by
  cases x with
  | list hid hI => obtain ⟨o, e, c, d⟩ := hI; exact .list (Nat.lt_of_lt_of_le hid X.le) ⟨o, X.fields e d, c, by rw [X.agree _ hid]; exact d⟩
  | range hI => exact .range (X.fields hI rfl)
  | tup hI ht hr => obtain ⟨o, e, c, d⟩ := hI; exact .tup ⟨o, X.fields e d, c, d⟩ (X.tup ht) (hr.extW X)
  | enumL hid hE hI hne => obtain ⟨o, e, c, d⟩ := hI; exact .enumL (Nat.lt_of_lt_of_le hid X.le) (X.fields hE rfl) ⟨o, X.fields e d, c, by rw [X.agree _ hid]; exact d⟩ hne
  | enumB hE hI hb hle hne => obtain ⟨o, e, c, d⟩ := hI; exact .enumB (X.fields hE rfl) ⟨o, X.fields e d, c, d⟩ hb hle hne

noncomputable def isTup : Expr → Bool
  | .Tuple .. => true
  | _ => false
theorem tup_of {t : Expr} (h : isTup t = true) : ∃ es kk pos, t = .Tuple es kk pos := by
  cases t <;> first | (cases h; done) | exact ⟨_, _, _, rfl⟩
/-- the targets that an iterator serves here -/
noncomputable def tgtOK : It → Expr → Bool
  | .enumL .., t => isTup t
  | .enumB .., t => isTup t
  | _, _ => true

section
variable {prog : Program} {w : World} {g : Heap} {k : Nat} {nms : List (Str × NameKind)} {nm : List Str}

theorem Rel.isList {φ σ h id xs} (R : Rel g φ σ h) (e : σ[id]? = some (AO.list xs)) : ∃ items, h.IsList (φ id) items.toArray ∧ Reps g φ σ.length h xs items := by
  obtain ⟨ob, hob, hr⟩ := R.objs id _ e
  cases hr with
  | list hr => exact ⟨_, ⟨_, hob, rfl, _, rfl⟩, hr⟩

theorem letGo_range {target : Expr} {I : Addr} {c l st : Int} {v : Value} {Q : Unit → Shared → Prop} {E : Value → Shared → Prop} {s : Shared} {A : Around} (hI : IsRangeIter s.heap I c l st) (h : Q () s) :
    wpAny (model prog w) A (letOwnedTupleGo target (.ref I) v) Q E s := by
  unfold letOwnedTupleGo
  cases target <;> first
    | exact wpAny_pure h
    | (cases v <;> first
      | exact wpAny_pure h
      | (refine wpAny_bind (wpAny_load hI ?_)
         exact wpAny_pure h))
theorem letGo_tupiter {target : Expr} {I t : Addr} {i : Nat} {v : Value} {Q : Unit → Shared → Prop} {E : Value → Shared → Prop} {s : Shared} {A : Around} (hI : s.heap.IsTupleIter I t i) (h : Q () s) :
    wpAny (model prog w) A (letOwnedTupleGo target (.ref I) v) Q E s := by
  obtain ⟨o, ho, hc, hd⟩ := hI
  unfold letOwnedTupleGo
  cases target <;> first
    | exact wpAny_pure h
    | (cases v <;> first
      | exact wpAny_pure h
      | (refine wpAny_bind (wpAny_load ho ?_)
         rw [hc, hd]
         exact wpAny_pure h))

theorem off1 {I b : Addr} (hb : b ∉ [I]) : b ≠ I := fun h => hb (h ▸ .head _)
theorem off2a {I it b : Addr} (hb : b ∉ [I, it]) : b ≠ I := fun h => hb (h ▸ .head _)
theorem off2b {I it b : Addr} (hb : b ∉ [I, it]) : b ≠ it := fun h => hb (h ▸ .tail _ (.head _))
theorem it_step {A s φ σ it I J r} {tgt : Expr} (hA : Rm A k) (R : Rel g φ σ s.heap) (x : ItOK g φ σ.length s.heap it I J) (e : itNext it σ = some r) (ht : tgtOK it tgt = true)
    {Kn : Shared → Prop} {Ks : Value → Shared → Prop} {E E' : Value → Shared → Prop}
    (hn : r = none → ∀ h' tk, Raw J s.heap h' → Kn { s with heap := h', toks := tk })
    (hs : ∀ a it', r = some (a, it') → ∀ v h' tk, Raw J s.heap h' → ItOK g φ σ.length h' it' I J → Rep g φ σ.length h' a v → Ks v { s with heap := h', toks := tk }) :
    wpAny (model prog w) A (pyNext (.ref I)) (fun r' s₁ => match r' with | none => Kn s₁ | some v => wpAny (model prog w) A (letOwnedTupleGo tgt (.ref I) v) (fun _ s₁' => Ks v s₁') E' s₁) E s := by
  cases x with
  | @list id i _ hid hI =>
    unfold itNext at e
    dsimp only at e
    split at e
    · rename_i xs hx
      obtain ⟨items, hl, hr⟩ := R.isList hx
      split at e
      · rename_i a ha
        obtain rfl := (Option.some.inj e)
        obtain ⟨v, hv, hrep⟩ := hr.get ha
        refine wpAny_pyNext_list_item hI hl (x := v) (by simpa using hv) fun h' hI' hsb => ?_
        have raw : Raw [I] s.heap h' := fun b o hb e => hsb.extBut b o (off1 hb) e
        have hj := (ItOK.list (g := g) (n := σ.length) hid hI).jok
        refine letGo_listiter hI' ?_
        exact hs _ _ rfl v h' s.toks raw (.list hid hI') (hrep.keeps (fun _ _ => rfl) (Nat.le_refl _) (hj.tup raw))
      · rename_i ha
        obtain rfl := (Option.some.inj e)
        refine wpAny_pyNext_list_end hA.hd hI hl ?_ fun h' he => hn rfl h' s.toks fun b o hb e => he b o (off1 hb) e
        have := List.getElem?_eq_none_iff.mp ha
        simp only [List.getElem?_toArray, List.getElem?_eq_none_iff]
        rw [hr.length]; exact this
    · (first | obtain ⟨rfl, rfl⟩ := Prod.mk.inj (Option.some.inj e) | cases e)
  | @range c st m _ hI =>
    cases m with
    | zero =>
      obtain rfl := (Option.some.inj e)
      exact wpAny_pyNext_range_end hA.hd hI (by simp) fun h' he => hn rfl h' s.toks fun b o hb e => he b o (off1 hb) e
    | succ m =>
      obtain rfl := (Option.some.inj e)
      refine wpAny_pyNext_range_item hI (by (first | lia | omega)) fun h' hI' hsb => ?_
      refine letGo_range hI' ?_
      refine hs _ _ rfl _ h' _ (fun b o hb e => hsb.extBut b o (off1 hb) e) (.range ?_) (.int _ _)
      have e2 : ((m + 1 : Nat) : Int) - 1 = (m : Int) := by (first | lia | omega)
      rw [← e2]; exact hI'
  | @tup vs items i _ t kk hI htup hr =>
    unfold itNext at e
    dsimp only at e
    have hT : s.heap.IsTuple t items.toArray := ⟨_, htup, rfl, _, rfl⟩
    have hj := (ItOK.tup (g := g) (n := σ.length) hI htup hr).jok
    split at e
    · rename_i a ha
      obtain rfl := (Option.some.inj e)
      obtain ⟨v, hv, hrep⟩ := hr.get ha
      refine wpAny_pyNext_tuple_item hI hT (x := v) (by simpa using hv) fun h' hI' hsb => ?_
      have raw : Raw [I] s.heap h' := fun b o hb e => hsb.extBut b o (off1 hb) e
      have up : ∀ {a v}, Rep g φ σ.length s.heap a v → Rep g φ σ.length h' a v := fun r => r.keeps (fun _ _ => rfl) (Nat.le_refl _) (hj.tup raw)
      refine letGo_tupiter hI' ?_
      exact hs _ _ rfl v h' s.toks raw (.tup hI' (hj.tup raw _ _ _ htup) (hr.keeps (fun _ _ => rfl) (Nat.le_refl _) (hj.tup raw))) (up hrep)
    · rename_i ha
      obtain rfl := (Option.some.inj e)
      refine wpAny_pyNext_tuple_end hA.hd hI hT ?_ fun h' he => hn rfl h' s.toks fun b o hb e => he b o (off1 hb) e
      have := List.getElem?_eq_none_iff.mp ha
      simp only [List.getElem?_toArray, List.getElem?_eq_none_iff]
      rw [hr.length]; exact this
  | @enumL id i _ it old hid hE hI hne =>
    unfold itNext at e
    dsimp only at e
    split at e
    · rename_i xs hx
      obtain ⟨items, hl, hr⟩ := R.isList hx
      split at e
      · rename_i a ha
        obtain rfl := (Option.some.inj e)
        obtain ⟨v, hv, hrep⟩ := hr.get ha
        have hj := (ItOK.enumL (g := g) (n := σ.length) hid hE hI hne).jok
        refine wpAny_pyNext_enum_item hE hI hl (x := v) (by simpa using hv) hne fun h₁ hE₁ hI₁ hT₁ hz₁ hk₁ => ?_
        have raw₁ : Raw [I, it] s.heap h₁ := fun b o hb e => hk₁ b o (off2a hb) (off2b hb) e
        cases tgt <;> first | (cases ht; done) | skip
        refine wpAny_letOwnedTupleGo_enum hE₁ fun h₂ hE₂ hsb => ?_
        have hsb' : Heap.SameBut I h₁ h₂ := hsb
        have hIs : I ≠ s.heap.objs.size := Nat.ne_of_lt (Heap.lt_size hE)
        have raw : Raw [I, it] s.heap h₂ := fun b o hb e => hsb'.extBut b o (off2a hb) (raw₁ b o hb e)
        have hT₂ : h₂.get? s.heap.objs.size = some (tupObj [.int i s.toks, v] 0) := hsb'.extBut _ _ (Ne.symm hIs) hT₁
        have hI₂ : h₂.IsListIter it (φ id) (i + 1) := hI₁.extBut hsb'.extBut (Ne.symm hne)
        refine hs _ _ rfl _ h₂ _ raw (.enumL hid (by exact_mod_cast hE₂) hI₂ hne) (.tup hT₂ (.cons (.int _ _) (.cons ?_ .nil)))
        exact hrep.keeps (fun _ _ => rfl) (Nat.le_refl _) (hj.tup raw)
      · rename_i ha
        obtain rfl := (Option.some.inj e)
        refine wpAny_pyNext_enum_end hA.hd hE hI hl ?_ fun h' he => hn rfl h' s.toks fun b o hb e => he b o (off2b hb) e
        have := List.getElem?_eq_none_iff.mp ha
        simp only [List.getElem?_toArray, List.getElem?_eq_none_iff]
        rw [hr.length]; exact this
    · (first | obtain ⟨rfl, rfl⟩ := Prod.mk.inj (Option.some.inj e) | cases e)
  | @enumB b i _ it old tb hE hI hb hle hne =>
    unfold itNext at e
    dsimp only at e
    have hsize : (bytesArr b).size = b.length := by unfold bytesArr; simp
    have hef : I ∉ [it] := by simpa using hne
    split at e
    · rename_i x hx
      obtain rfl := (Option.some.inj e)
      have hlt : i < (bytesArr b).size := by rw [hsize]; exact (List.getElem?_eq_some_iff.mp hx).1
      refine wpAny_pyNext_enum_itemD (drawsB (A := A.in1) hA.hd it (bytesArr b) tb) hE hI hlt hne hef fun v h₁ tk hP hE₁ hI₁ hT₁ hz₁ hk₁ => ?_
      obtain ⟨c, u, hc, rfl⟩ := hP
      have hcx : (c : UInt8).toNat = x := by
        have h1 : (bytesArr b)[i]? = some (x.toUInt8) := by
          unfold bytesArr
          simp [List.getElem?_map, hx]
        rw [h1] at hc
        cases hc
        have := hb x (List.mem_of_getElem? hx)
        exact Nat.mod_eq_of_lt this
      have raw₁ : Raw [I, it] s.heap h₁ := fun b o hb e => hk₁ b o (off2a hb) (off2b hb) e
      obtain ⟨tes, tkk, tpos, rfl⟩ := tup_of ht
      refine wpAny_letOwnedTupleGo_enum hE₁ fun h₂ hE₂ hsb => ?_
      have hsb' : Heap.SameBut I h₁ h₂ := hsb
      have hIs : I ≠ s.heap.objs.size := Nat.ne_of_lt (Heap.lt_size hE)
      have raw : Raw [I, it] s.heap h₂ := fun b o hb e => hsb'.extBut b o (off2a hb) (raw₁ b o hb e)
      have hT₂ : h₂.get? s.heap.objs.size = some (tupObj [.int i tk, .int (c.toNat : Int) u] 0) := hsb'.extBut _ _ (Ne.symm hIs) hT₁
      have hI₂ : KBw.IsBytesIter h₂ it (bytesArr b) tb (i + 1) := by
        obtain ⟨o, e, r⟩ := hI₁
        exact ⟨o, hsb'.extBut _ _ (Ne.symm hne) e, r⟩
      refine hs _ _ rfl _ h₂ _ raw (.enumB (by exact_mod_cast hE₂) hI₂ hb (List.getElem?_eq_some_iff.mp hx).1 hne) (.tup hT₂ (.cons (.int _ _) (.cons ?_ .nil)))
      rw [hcx]
      exact .int _ _
    · rename_i hx
      obtain rfl := (Option.some.inj e)
      have hge : b.length ≤ i := List.getElem?_eq_none_iff.mp hx
      have hi : i = (bytesArr b).size := by rw [hsize]; (first | lia | omega)
      exact wpAny_pyNext_enum_endD (drawsB (A := A.in1) hA.hd it (bytesArr b) tb) hE (hi ▸ hI) fun h' he => hn rfl h' s.toks fun b o hb e => he b o (off2b hb) e
end
end Mine
end
section
set_option maxRecDepth 100000
namespace Mine
section
variable {prog : Program} {w : World} {g : Heap} {k : Nat} {nms : List (Str × NameKind)} {nm : List Str}

/-! calls of a name: a built-in function, a type -/
/-- plain positional arguments, at least one -/
structure Plain (args : List Expr) : Prop where
  first : ∃ e es, args = e :: es ∧ ∀ env, starEach (e :: es) env = (false, eval e env) :: starEach es env
  plain : ∀ env pos, (backTo pos (starEach args env)).any (·.1) = false

theorem wp_callT {env A s φ ρ σ} {x : Str} {T : String} {p pos : Pos} {args : List Expr} {fs : EFs} (hk : nms.lookup x = some .globalImplicit) (hd : (x == ("__debug__" : Str)) = false) (hg : GlobIs g x (.type T))
    (h1 : SimEs prog w g k nms nm args fs) (pl : Plain args) (eo : EnvOK nms env) (hA : Rm A k) (R : Rel g φ σ s.heap) (F : FrameOK g nm env φ σ.length s.heap ρ) {as σ1} (e1 : fs ρ σ = some (as, σ1))
    {Q E : Value → Shared → Prop} (h : ∀ vs h' tk φ', Ext g φ σ s.heap φ' σ1 h' → Reps g φ' σ1.length h' as vs → wpAny (model prog w) A (call (.type T) vs) Q E { s with heap := h', toks := tk }) :
    wpAny (model prog w) A (eval (.Call (.Name x p) args [] pos) env) Q E s := by
  refine wpAny_Call_Name_kw (sim_glob (prog := prog) (w := w) (k := k) (nms := nms) (nm := nm) (pos := p) (.type T) hk hd hg env A s φ ρ σ eo hA R F _ _ rfl _ _ fun v h₁ tk₁ φ₁ X₁ r₁ => ?_)
  (first | obtain ⟨_, rfl⟩ := r₁.intI | obtain ⟨_, rfl⟩ := r₁.strI | obtain rfl := r₁.nilI | obtain ⟨rfl, _⟩ := r₁.refI | cases r₁)
  refine PySem.callWith_type (pl.plain env pos) ?_
  obtain ⟨e, es, rfl, hs⟩ := pl.first
  have main := h1 env A { s with heap := h₁, toks := tk₁ } φ₁ ρ σ pos eo hA X₁.rel (F.ext X₁) as σ1 e1 (fun vs s₂ => wpAny (model prog w) A (call (.type T) vs) Q E s₂) E fun vs h₂ tk₂ φ₂ X₂ r₂ => h vs h₂ tk₂ φ₂ (X₁.trans X₂) r₂
  rw [hs] at main ⊢
  exact evalArgs_plain main
theorem wp_callB {env A s φ ρ σ} {x : Str} {id : String} {p pos : Pos} {args : List Expr} {fs : EFs} (hk : nms.lookup x = some .globalImplicit) (hd : (x == ("__debug__" : Str)) = false) (hg : GlobIs g x (.builtin id))
    (h1 : SimEs prog w g k nms nm args fs) (pl : Plain args) (eo : EnvOK nms env) (hA : Rm A k) (R : Rel g φ σ s.heap) (F : FrameOK g nm env φ σ.length s.heap ρ) {as σ1} (e1 : fs ρ σ = some (as, σ1))
    {Q E : Value → Shared → Prop} (h : ∀ vs h' tk φ', Ext g φ σ s.heap φ' σ1 h' → Reps g φ' σ1.length h' as vs → wpAny (model prog w) A (call (.builtin id) vs) Q E { s with heap := h', toks := tk }) :
    wpAny (model prog w) A (eval (.Call (.Name x p) args [] pos) env) Q E s := by
  refine wpAny_Call_Name_kw (sim_glob (prog := prog) (w := w) (k := k) (nms := nms) (nm := nm) (pos := p) (.builtin id) hk hd hg env A s φ ρ σ eo hA R F _ _ rfl _ _ fun v h₁ tk₁ φ₁ X₁ r₁ => ?_)
  (first | obtain ⟨_, rfl⟩ := r₁.intI | obtain ⟨_, rfl⟩ := r₁.strI | obtain rfl := r₁.nilI | obtain ⟨rfl, _⟩ := r₁.refI | cases r₁)
  refine Calls.callWith_builtin (pl.plain env pos) ?_
  obtain ⟨e, es, rfl, hs⟩ := pl.first
  have main := h1 env A { s with heap := h₁, toks := tk₁ } φ₁ ρ σ pos eo hA X₁.rel (F.ext X₁) as σ1 e1 (fun vs s₂ => wpAny (model prog w) A (call (.builtin id) vs) Q E s₂) E fun vs h₂ tk₂ φ₂ X₂ r₂ => h vs h₂ tk₂ φ₂ (X₁.trans X₂) r₂
  rw [hs] at main ⊢
  exact evalArgs_plain main

/-! a call of a built-in by a rule of its own -/
noncomputable abbrev CF := List AV → St → Option (AV × St)
variable (prog w g k) in
noncomputable def PrimC (f : Value) (op : CF) : Prop :=
  ∀ A s φ σ as vs, Rm A k → Rel g φ σ s.heap → Reps g φ σ.length s.heap as vs → Runs prog w g A s φ σ (call f vs) (op as σ)
noncomputable def callE (op : CF) (fs : EFs) : EF := fun ρ σ => (fs ρ σ).bind fun p => op p.1 p.2
theorem sim_callT {x : Str} {T : String} {p pos : Pos} {args : List Expr} {fs : EFs} {op : CF} (hk : nms.lookup x = some .globalImplicit) (hd : (x == ("__debug__" : Str)) = false) (hg : GlobIs g x (.type T))
    (h1 : SimEs prog w g k nms nm args fs) (pl : Plain args) (hp : PrimC prog w g k (.type T) op) : SimE prog w g k nms nm (.Call (.Name x p) args [] pos) (callE op fs) := by
  intro env A s φ ρ σ eo hA R F av σ' e Q E h
  obtain ⟨⟨as, σ1⟩, e1, e⟩ := obind e
  exact wp_callT hk hd hg h1 pl eo hA R F e1 fun vs h₁ tk₁ φ₁ X₁ r₁ => hp A _ φ₁ σ1 as vs hA X₁.rel r₁ av σ' e _ _ fun v h₂ tk₂ φ₂ X₂ r₂ => h v h₂ tk₂ φ₂ (X₁.trans X₂) r₂
theorem sim_callB {x : Str} {id : String} {p pos : Pos} {args : List Expr} {fs : EFs} {op : CF} (hk : nms.lookup x = some .globalImplicit) (hd : (x == ("__debug__" : Str)) = false) (hg : GlobIs g x (.builtin id))
    (h1 : SimEs prog w g k nms nm args fs) (pl : Plain args) (hp : PrimC prog w g k (.builtin id) op) : SimE prog w g k nms nm (.Call (.Name x p) args [] pos) (callE op fs) := by
  intro env A s φ ρ σ eo hA R F av σ' e Q E h
  obtain ⟨⟨as, σ1⟩, e1, e⟩ := obind e
  exact wp_callB hk hd hg h1 pl eo hA R F e1 fun vs h₁ tk₁ φ₁ X₁ r₁ => hp A _ φ₁ σ1 as vs hA X₁.rel r₁ av σ' e _ _ fun v h₂ tk₂ φ₂ X₂ r₂ => h v h₂ tk₂ φ₂ (X₁.trans X₂) r₂

/-! ranges -/
noncomputable abbrev RF := Fm → St → Option ((Int × Int × Int) × St)
variable (prog w g) in
noncomputable def SimR (k : Nat) (nms : List (Str × NameKind)) (nm : List Str) (e : Expr) (f : RF) : Prop :=
  ∀ env A s φ ρ σ, EnvOK nms env → Rm A k → Rel g φ σ s.heap → FrameOK g nm env φ σ.length s.heap ρ → ∀ a b c σ', f ρ σ = some ((a, b, c), σ') → ∀ (Q E : Value → Shared → Prop),
    (∀ r t u v h' tk φ', Ext g φ σ s.heap φ' σ' h' → IsRange h' r a b c t u v → Q (.ref r) { s with heap := h', toks := tk }) → wpAny (model prog w) A (eval e env) Q E s
noncomputable def rngF (fs : EFs) : RF := fun ρ σ => (fs ρ σ).bind fun p => match p.1 with
  | [.int b] => some ((0, b, 1), p.2)
  | [.int a, .int b] => some ((a, b, 1), p.2)
  | [.int a, .int b, .int c] => if c ≠ 0 ∧ Builtin.divisionGoesByPylong (b - a) c = false then some ((a, b, c), p.2) else none
  | _ => none
theorem simr_range {x : Str} {p pos : Pos} {args : List Expr} {fs : EFs} (hk : nms.lookup x = some .globalImplicit) (hd : (x == ("__debug__" : Str)) = false) (hg : GlobIs g x (.type "range"))
    (h1 : SimEs prog w g k nms nm args fs) (pl : Plain args) : SimR prog w g k nms nm (.Call (.Name x p) args [] pos) (rngF fs) := by
  intro env A s φ ρ σ eo hA R F a b c σ' e Q E h
  obtain ⟨⟨as, σ1⟩, e1, e⟩ := obind e
  refine wp_callT hk hd hg h1 pl eo hA R F e1 fun vs h₁ tk₁ φ₁ X₁ r₁ => ?_
  dsimp only at e
  split at e
  · rename_i b0
    (first | obtain ⟨rfl, rfl⟩ := Prod.mk.inj (Option.some.inj e) | cases e)
    obtain ⟨_, rfl, r1⟩ := r₁.oneI
    obtain ⟨t, rfl⟩ := r1.intI
    exact call_range_1 (h _ _ _ _ _ _ _ (X₁.trans (Ext.push X₁.rel _)) (Heap.get?_push_size _ rfl))
  · rename_i a0 b0
    (first | obtain ⟨rfl, rfl⟩ := Prod.mk.inj (Option.some.inj e) | cases e)
    obtain ⟨_, _, rfl, r1, r2⟩ := r₁.twoI
    obtain ⟨t, rfl⟩ := r1.intI
    obtain ⟨t, rfl⟩ := r2.intI
    exact call_range_2 (h _ _ _ _ _ _ _ (X₁.trans (Ext.push X₁.rel _)) (Heap.get?_push_size _ rfl))
  · rename_i a0 b0 c0
    split at e
    · rename_i hc
      (first | obtain ⟨rfl, rfl⟩ := Prod.mk.inj (Option.some.inj e) | cases e)
      obtain ⟨_, _, _, rfl, r1, r2, r3⟩ := r₁.threeI
      obtain ⟨t, rfl⟩ := r1.intI
      obtain ⟨t, rfl⟩ := r2.intI
      obtain ⟨t, rfl⟩ := r3.intI
      exact call_range_3 hc.1 (h _ _ _ _ _ _ _ (X₁.trans (Ext.push X₁.rel _)) (Heap.get?_push_size _ rfl)) (.inl hc.2)
    · (first | obtain ⟨rfl, rfl⟩ := Prod.mk.inj (Option.some.inj e) | cases e)
  · (first | obtain ⟨rfl, rfl⟩ := Prod.mk.inj (Option.some.inj e) | cases e)

noncomputable def rngIt (a b c : Int) : Option It := if Builtin.Range.small a b c = true ∧ 0 ≤ Builtin.Range.rangeSize a b c then some (.range a c (Builtin.Range.rangeSize a b c).toNat) else none
/-- list(range(..)) -/
noncomputable def rngVals (a c : Int) : Nat → List AV
  | 0 => []
  | n + 1 => AV.int a :: rngVals (a + c) c n
theorem rngVals_length (a c : Int) (n : Nat) : (rngVals a c n).length = n := by
  induction n generalizing a with
  | zero => rfl
  | succ n ih => simp [rngVals, ih]
theorem rngVals_reps {φ n h} (c : Int) : ∀ (m : Nat) (a : Int) (vs : List Value), vs.length = m → (∀ (j : Nat) v, vs[j]? = some v → ∃ t, v = Value.int (a + (j : Int) * c) t) → Reps g φ n h (rngVals a c m) vs := by
  intro m
  induction m with
  | zero =>
    intro a vs hl _
    cases vs with
    | nil => exact .nil
    | cons v vs => simp at hl
  | succ m ih =>
    intro a vs hl hv
    cases vs with
    | nil => simp at hl
    | cons v vs =>
      obtain ⟨t, e⟩ := hv 0 v rfl
      have e0 : a + ((0 : Nat) : Int) * c = a := by simp
      rw [e0] at e
      subst e
      refine .cons (.int _ _) (ih (a + c) vs (by simpa using hl) fun j v hj => ?_)
      obtain ⟨t', e'⟩ := hv (j + 1) v (by simpa using hj)
      refine ⟨t', ?_⟩
      rw [e']
      congr 1
      have : ((j + 1 : Nat) : Int) * c = (j : Int) * c + c := by rw [Int.natCast_succ, Int.add_mul, Int.one_mul]
      (first | lia | omega)
noncomputable def lstRngE (f : RF) : EF := fun ρ σ => (f ρ σ).bind fun p =>
  if Builtin.Range.small p.1.1 p.1.2.1 p.1.2.2 = true ∧ 0 ≤ Builtin.Range.rangeSize p.1.1 p.1.2.1 p.1.2.2 ∧ Builtin.Range.rangeSize p.1.1 p.1.2.1 p.1.2.2 ≤ 65536 then
    newL (rngVals p.1.1 p.1.2.2 (Builtin.Range.rangeSize p.1.1 p.1.2.1 p.1.2.2).toNat) p.2 else none
theorem sim_listRange {x : Str} {p pos : Pos} {r : Expr} {f : RF} (hk : nms.lookup x = some .globalImplicit) (hd : (x == ("__debug__" : Str)) = false) (hg : GlobIs g x (.type "list"))
    (h1 : SimR prog w g k nms nm r f) (hs : ∀ env, starEach [r] env = [(false, eval r env)]) : SimE prog w g k nms nm (.Call (.Name x p) [r] [] pos) (lstRngE f) := by
  intro env A s φ ρ σ eo hA R F av σ' e Q E h
  obtain ⟨⟨⟨a, b, c⟩, σ1⟩, e1, e⟩ := obind e
  dsimp only at e
  split at e
  · rename_i hc
    unfold newL at e
    rw [rngVals_length] at e
    split at e
    · rename_i hsz
      (first | obtain ⟨rfl, rfl⟩ := Prod.mk.inj (Option.some.inj e) | cases e)
      refine wpAny_Call_Name_kw (sim_glob (prog := prog) (w := w) (k := k) (nms := nms) (nm := nm) (pos := p) (.type "list") hk hd hg env A s φ ρ σ eo hA R F _ _ rfl _ _ fun v h₁ tk₁ φ₁ X₁ r₁ => ?_)
      (first | obtain ⟨_, rfl⟩ := r₁.intI | obtain ⟨_, rfl⟩ := r₁.strI | obtain rfl := r₁.nilI | obtain ⟨rfl, _⟩ := r₁.refI | cases r₁)
      rw [hs]
      refine PySem.callWith_type rfl (evalArgs_plain (Calls.spliced_cons ?_))
      refine h1 env A { s with heap := h₁, toks := tk₁ } φ₁ ρ σ eo hA X₁.rel (F.ext X₁) a b c σ1 e1 _ _ fun r t u v h₂ tk₂ φ₂ X₂ hr => Calls.spliced_nil ?_
      have hn : Builtin.Range.rangeSize a b c = ((Builtin.Range.rangeSize a b c).toNat : Int) := by (first | lia | omega)
      refine call_list_range (n := (Builtin.Range.rangeSize a b c).toNat) hA.hd hr hc.1 hn (by (first | lia | omega)) fun h₃ tk₃ acc c' hk₃ hl hit => ?_
      have X₃ := Ext.made (φ := φ₂) (A := h₂.objs.size) X₂.rel hk₃ (heap_push_none h₂) hl (.list (xs := rngVals a c (Builtin.Range.rangeSize a b c).toNat) (items := acc.toList) (rngVals_reps c _ a acc.toList (by simpa using hit.1) fun j v hj => hit.2 j v (by simpa using hj)))
      refine h _ h₃ tk₃ _ ((X₁.trans X₂).trans X₃) ?_
      have := Rep.ref (g := g) (φ := φput φ₂ σ1.length h₂.objs.size) (n := (σ1 ++ [AO.list (rngVals a c (Builtin.Range.rangeSize a b c).toNat)]).length) (h := h₃) σ1.length (by simp)
      rw [φput_new] at this
      exact this
    · (first | obtain ⟨rfl, rfl⟩ := Prod.mk.inj (Option.some.inj e) | cases e)
  · (first | obtain ⟨rfl, rfl⟩ := Prod.mk.inj (Option.some.inj e) | cases e)

/-! what a loop goes over -/
noncomputable abbrev IF := Fm → St → Option (It × St)
variable (prog w g) in
noncomputable def SimI (k : Nat) (nms : List (Str × NameKind)) (nm : List Str) (e : Expr) (f : IF) : Prop :=
  ∀ env A s φ ρ σ, EnvOK nms env → Rm A k → Rel g φ σ s.heap → FrameOK g nm env φ σ.length s.heap ρ → ∀ it σ', f ρ σ = some (it, σ') → ∀ (Q E : Value → Shared → Prop),
    (∀ I J h' tk φ', Ext g φ σ s.heap φ' σ' h' → ItOK g φ' σ'.length h' it I J → (∀ j ∈ J, s.heap.get? j = none) → Q (.ref I) { s with heap := h', toks := tk }) →
    wpAny (model prog w) A (eval e env) (fun xv s₁ => wpAny (model prog w) A (pyIter xv) Q E s₁) E s
theorem fresh_of_ext {φ σ h φ' σ' h' a} (X : Ext g φ σ h φ' σ' h') (ha : h'.objs.size ≤ a) : h.get? a = none := by
  cases e : h.get? a with
  | none => rfl
  | some o =>
    obtain ⟨o', e'⟩ := X.live _ _ e
    exact absurd (Heap.lt_size e') (Nat.not_lt.mpr ha)
/-- a list of ours, a tuple -/
noncomputable def seqI (f : EF) : IF := fun ρ σ => (f ρ σ).bind fun p => match p.1 with
  | .ref id => match p.2[id]? with
    | some (.list _) => some (.list id 0, p.2)
    | _ => none
  | .tup vs => some (.tup vs 0, p.2)
  | _ => none
theorem simi_seq {e : Expr} {f : EF} (h1 : SimE prog w g k nms nm e f) : SimI prog w g k nms nm e (seqI f) := by
  intro env A s φ ρ σ eo hA R F it σ' e Q E h
  obtain ⟨⟨a, σ1⟩, e1, e⟩ := obind e
  refine h1 env A s φ ρ σ eo hA R F a σ1 e1 _ _ fun v h₁ tk₁ φ₁ X₁ r₁ => ?_
  dsimp only at e
  split at e
  · rename_i id
    split at e
    · rename_i xs hx
      (first | obtain ⟨rfl, rfl⟩ := Prod.mk.inj (Option.some.inj e) | cases e)
      obtain ⟨rfl, hid⟩ := r₁.refI
      obtain ⟨items, hl, hr⟩ := X₁.rel.isList hx
      refine wpAny_pyIter_list hl ?_
      have X := X₁.trans (Ext.push X₁.rel { cls := .type "list_iterator", data := .fields #[.ref (φ₁ id), .int 0 0] })
      refine h _ [h₁.objs.size] _ _ φ₁ X (.list hid ⟨_, Heap.get?_push_size _ rfl, rfl, rfl⟩) fun j hj => ?_
      rw [List.mem_singleton.mp hj]
      exact fresh_of_ext X₁ (Nat.le_refl _)
    · (first | obtain ⟨rfl, rfl⟩ := Prod.mk.inj (Option.some.inj e) | cases e)
  · rename_i vs
    (first | obtain ⟨rfl, rfl⟩ := Prod.mk.inj (Option.some.inj e) | cases e)
    obtain ⟨_, _, _, rfl, ha, hr⟩ := r₁.tupI
    rename_i items t kk
    refine wpAny_pyIter_tuple (items := items.toArray) ⟨_, ha, rfl, _, rfl⟩ ?_
    have X2 := Ext.push X₁.rel { cls := .type "tuple_iterator", data := .fields #[.ref t, .int 0 0] }
    refine h _ [h₁.objs.size] _ _ φ₁ (X₁.trans X2) (.tup ⟨_, Heap.get?_push_size _ rfl, rfl, rfl⟩ (Heap.get?_push_of_some _ ha) (hr.ext X2)) fun j hj => ?_
    rw [List.mem_singleton.mp hj]
    exact fresh_of_ext X₁ (Nat.le_refl _)
  · (first | obtain ⟨rfl, rfl⟩ := Prod.mk.inj (Option.some.inj e) | cases e)
noncomputable def rngI (f : RF) : IF := fun ρ σ => (f ρ σ).bind fun p => (rngIt p.1.1 p.1.2.1 p.1.2.2).bind fun it => some (it, p.2)
theorem simi_range {e : Expr} {f : RF} (h1 : SimR prog w g k nms nm e f) : SimI prog w g k nms nm e (rngI f) := by
  intro env A s φ ρ σ eo hA R F it σ' e Q E h
  obtain ⟨⟨⟨a, b, c⟩, σ1⟩, e1, e⟩ := obind e
  obtain ⟨it0, e2, e⟩ := obind e
  (first | obtain ⟨rfl, rfl⟩ := Prod.mk.inj (Option.some.inj e) | cases e)
  unfold rngIt at e2
  dsimp only at e2
  split at e2
  · rename_i hc
    cases e2
    refine h1 env A s φ ρ σ eo hA R F a b c _ e1 _ _ fun r t u v h₁ tk₁ φ₁ X₁ hr => ?_
    refine wpAny_pyIter_range hr hc.1 ?_
    refine h _ [h₁.objs.size] _ _ φ₁ (X₁.trans (Ext.push X₁.rel _)) (.range ?_) fun j hj => ?_
    · have hn : ((Builtin.Range.rangeSize a b c).toNat : Int) = Builtin.Range.rangeSize a b c := by (first | lia | omega)
      rw [hn]
      exact Heap.get?_push_size _ rfl
    · rw [List.mem_singleton.mp hj]
      exact fresh_of_ext X₁ (Nat.le_refl _)
  · cases e2
noncomputable def enumI (fs : EFs) : IF := fun ρ σ => (fs ρ σ).bind fun p => match p.1 with
  | [.ref id] => match p.2[id]? with
    | some (.list _) => some (.enumL id 0, p.2)
    | _ => none
  | [.bytes b] => some (.enumB b 0, p.2)
  | _ => none
theorem simi_enum {x : Str} {p pos : Pos} {args : List Expr} {fs : EFs} (hk : nms.lookup x = some .globalImplicit) (hd : (x == ("__debug__" : Str)) = false) (hg : GlobIs g x (.type "enumerate"))
    (h1 : SimEs prog w g k nms nm args fs) (pl : Plain args) : SimI prog w g k nms nm (.Call (.Name x p) args [] pos) (enumI fs) := by
  intro env A s φ ρ σ eo hA R F it σ' e Q E h
  obtain ⟨⟨as, σ1⟩, e1, e⟩ := obind e
  refine wp_callT hk hd hg h1 pl eo hA R F e1 fun vs h₁ tk₁ φ₁ X₁ r₁ => ?_
  dsimp only at e
  split at e
  · rename_i id
    split at e
    · rename_i xs hx
      (first | obtain ⟨rfl, rfl⟩ := Prod.mk.inj (Option.some.inj e) | cases e)
      obtain ⟨_, rfl, r1⟩ := r₁.oneI
      obtain ⟨rfl, hid⟩ := r1.refI
      obtain ⟨items, hl, hr⟩ := X₁.rel.isList hx
      refine call_enumerate_list hl fun h₂ hE hI hz hk₂ => wpAny_pyIter_enum hE ?_
      refine h _ [h₁.objs.size + 1, h₁.objs.size] _ _ φ₁ (X₁.trans (Ext.grow X₁.rel hk₂)) (.enumL hid hE hI (Nat.succ_ne_self _)) fun j hj => ?_
      rcases List.mem_cons.mp hj with rfl | hj
      · exact fresh_of_ext X₁ (Nat.le_succ _)
      · rw [List.mem_singleton.mp hj]; exact fresh_of_ext X₁ (Nat.le_refl _)
    · (first | obtain ⟨rfl, rfl⟩ := Prod.mk.inj (Option.some.inj e) | cases e)
  · rename_i b
    (first | obtain ⟨rfl, rfl⟩ := Prod.mk.inj (Option.some.inj e) | cases e)
    obtain ⟨_, rfl, r1⟩ := r₁.oneI
    obtain ⟨tb, rfl, hb⟩ := r1.bytesI
    refine call_enumB fun h₂ hE hI hk₂ => wpAny_pyIter_enum hE ?_
    refine h _ [h₁.objs.size + 1, h₁.objs.size] _ _ φ₁ (X₁.trans (Ext.grow X₁.rel hk₂)) (.enumB hE hI hb (Nat.zero_le _) (Nat.succ_ne_self _)) fun j hj => ?_
    rcases List.mem_cons.mp hj with rfl | hj
    · exact fresh_of_ext X₁ (Nat.le_succ _)
    · rw [List.mem_singleton.mp hj]; exact fresh_of_ext X₁ (Nat.le_refl _)
  · (first | obtain ⟨rfl, rfl⟩ := Prod.mk.inj (Option.some.inj e) | cases e)
end
end Mine
end
section
set_option maxRecDepth 100000
namespace Mine
section
variable {prog : Program} {w : World} {g : Heap} {k : Nat} {nms : List (Str × NameKind)} {nm xs : List Str}

/-! targets -/
noncomputable abbrev AF := AV → Fm → St → Option (Fm × St)
noncomputable abbrev AFs := List AV → Fm → St → Option (Fm × St)
variable (prog w g) in
noncomputable def SimA (k : Nat) (nms : List (Str × NameKind)) (nm : List Str) (xs : List Str) (t : Expr) (f : AF) : Prop :=
  ∀ env A s φ ρ σ a va, EnvOK nms env → Rm A k → Rel g φ σ s.heap → FrameOK g nm env φ σ.length s.heap ρ → Rep g φ σ.length s.heap a va → ∀ ρ' σ', f a ρ σ = some (ρ', σ') → ∀ (Q : Unit → Shared → Prop) (E : Value → Shared → Prop),
    (∀ h' tk φ', ExtW g (tgtW env xs) φ σ s.heap φ' σ' h' → FrameOK g nm env φ' σ'.length h' ρ' → Q () { s with heap := h', toks := tk }) → wpAny (model prog w) A (assign t env va) Q E s
variable (prog w g) in
noncomputable def SimAs (k : Nat) (nms : List (Str × NameKind)) (nm : List Str) (xs : List Str) (ts : List Expr) (f : AFs) : Prop :=
  ∀ env A s φ ρ σ as vs, EnvOK nms env → Rm A k → Rel g φ σ s.heap → FrameOK g nm env φ σ.length s.heap ρ → Reps g φ σ.length s.heap as vs → ∀ ρ' σ', f as ρ σ = some (ρ', σ') → ∀ (Q : Unit → Shared → Prop) (E : Value → Shared → Prop),
    (∀ h' tk φ', ExtW g (tgtW env xs) φ σ s.heap φ' σ' h' → FrameOK g nm env φ' σ'.length h' ρ' → Q () { s with heap := h', toks := tk }) →
    wpAny (model prog w) A (assignInOrder ((assignEach ts env).map (·.2)) vs) Q E s

noncomputable def nameA (i : Nat) : AF := fun a ρ σ => some (Fm.put ρ i a, σ)
theorem sima_name {x : Str} {p : Pos} (i : Nat) (hx : nm[i]? = some x) (hk : stKind nms x = true) (hnd : nm.Nodup) (hxs : x ∈ xs) : SimA prog w g k nms nm xs (.Name x p) (nameA i) := by
  intro env A s φ ρ σ a va eo hA R F r ρ' σ' e Q E h
  (first | obtain ⟨rfl, rfl⟩ := Prod.mk.inj (Option.some.inj e) | cases e)
  exact wpAny_assign_Name (sim_store eo R F r hx hk hnd hxs fun h' tk X F' => h h' tk φ X F')
noncomputable def nilA : AFs := fun as ρ σ => match as with | [] => some (ρ, σ) | _ => none
noncomputable def consA (f : AF) (fs : AFs) : AFs := fun as ρ σ => match as with | a :: as => (f a ρ σ).bind fun p => fs as p.1 p.2 | _ => none
theorem simas_nil : SimAs prog w g k nms nm xs [] nilA := by
  intro env A s φ ρ σ as vs eo hA R F r ρ' σ' e Q E h
  cases r with
  | nil => (first | obtain ⟨rfl, rfl⟩ := Prod.mk.inj (Option.some.inj e) | cases e); exact assignInOrder_nil (h s.heap s.toks φ ((Ext.refl R).toW (F.wkT xs)) F)
  | cons _ _ => (first | obtain ⟨rfl, rfl⟩ := Prod.mk.inj (Option.some.inj e) | cases e)
theorem simas_cons {t : Expr} {ts : List Expr} {f : AF} {fs : AFs} (h1 : SimA prog w g k nms nm xs t f) (h2 : SimAs prog w g k nms nm xs ts fs)
    (he : ∀ env, assignEach (t :: ts) env = (false, assign t env) :: assignEach ts env) : SimAs prog w g k nms nm xs (t :: ts) (consA f fs) := by
  intro env A s φ ρ σ as vs eo hA R F r ρ' σ' e Q E h
  cases r with
  | nil => (first | obtain ⟨rfl, rfl⟩ := Prod.mk.inj (Option.some.inj e) | cases e)
  | cons r1 r2 =>
    obtain ⟨⟨ρ1, σ1⟩, e1, e2⟩ := obind e
    rw [he]
    refine assignInOrder_cons (h1 env A s φ ρ σ _ _ eo hA R F r1 ρ1 σ1 e1 _ _ fun h₁ tk₁ φ₁ X₁ F₁ => ?_)
    exact h2 env A _ φ₁ ρ1 σ1 _ _ eo hA X₁.rel F₁ (r2.extW X₁) ρ' σ' e2 _ _ fun h₂ tk₂ φ₂ X₂ F₂ => h h₂ tk₂ φ₂ (X₁.trans X₂) F₂
noncomputable def tupA (n : Nat) (fs : AFs) : AF := fun a ρ σ => match a with | .tup vs => if vs.length = n then fs vs ρ σ else none | _ => none
theorem sima_tup {ts : List Expr} {kk : Nat} {p : Pos} {n : Nat} {fs : AFs} (h1 : SimAs prog w g k nms nm xs ts fs) (hn : ∀ env, (assignEach ts env).length = n) (hs : ∀ env, (assignEach ts env).findIdx? (·.1) = none) :
    SimA prog w g k nms nm xs (.Tuple ts kk p) (tupA n fs) := by
  intro env A s φ ρ σ a va eo hA R F r ρ' σ' e Q E h
  unfold tupA at e
  split at e
  · split at e
    · rename_i hl
      obtain ⟨_, _, _, rfl, ha, hr⟩ := r.tupI
      rename_i items t kk
      refine assign_Tuple_tuple hA.hd (items := items.toArray) ⟨_, ha, rfl, _, rfl⟩ (by rw [hn]; simp [hr.length, hl]) (hs env) fun h' he => ?_
      have X := Ext.grow (h' := h') R fun b o eb => he b o (Nat.ne_of_lt (Heap.lt_size eb)) eb
      exact h1 env A _ φ ρ σ _ _ eo hA X.rel (F.ext X) (hr.ext X) ρ' σ' e _ _ fun h₂ tk₂ φ₂ X₂ F₂ => h h₂ tk₂ φ₂ ((X.toW (F.wkT xs)).trans X₂) F₂
    · (first | obtain ⟨rfl, rfl⟩ := Prod.mk.inj (Option.some.inj e) | cases e)
  · (first | obtain ⟨rfl, rfl⟩ := Prod.mk.inj (Option.some.inj e) | cases e)

noncomputable def asgA (f : EF) (t : AF) : SF := fun ρ σ => (f ρ σ).bind fun p => (t p.1 ρ p.2).bind fun q => some (.next, q.1, q.2)
theorem sims_assignTo {t e : Expr} {pos : Pos} {f : EF} {tf : AF} (h1 : SimE prog w g k nms nm e f) (h2 : SimA prog w g k nms nm xs t tf) (hs : ∀ env, swapsWithSole [t] e pos.line env = pure false)
    (hw : ∀ env, EnvOK nms env → swappedStores [t] e env = pure none) (hm : ∀ env, (assignEach [t] env).map (·.2) = [assign t env]) : SimS prog w g k nms nm (.Assign [t] e pos) (asgA f tf) := by
  intro env A s φ ρ σ eo hA R F fl ρ' σ' e Q E h
  obtain ⟨⟨a, σ1⟩, e1, e⟩ := obind e
  obtain ⟨⟨ρ2, σ2⟩, e2, e⟩ := obind e
  (first | obtain ⟨rfl, rfl⟩ := Prod.mk.inj (Option.some.inj e) | cases e)
  refine wpAny_Assign_stores (h1 env A s φ ρ σ eo hA R F a _ e1 _ _ fun v h₁ tk₁ φ₁ X₁ r₁ => ?_) (hs env) (hw env eo)
  rw [hm]
  exact h2 env A _ φ₁ ρ σ1 a v eo hA X₁.rel (F.ext X₁) r₁ _ _ e2 _ _ fun h₂ tk₂ φ₂ X₂ F₂ => h _ h₂ tk₂ φ₂ ((X₁.toW F.wk).trans (X₂.up (F.ext X₁).wk)) .next F₂
/-! an item stored -/
noncomputable abbrev WF := AV → AV → AV → St → Option St
variable (prog w g k) in
noncomputable def PrimW (op : WF) : Prop :=
  ∀ A s φ σ a b c va vb vc, Rm A k → Rel g φ σ s.heap → Rep g φ σ.length s.heap a va → Rep g φ σ.length s.heap b vb → Rep g φ σ.length s.heap c vc → ∀ σ', op a b c σ = some σ' → ∀ (Q : Unit → Shared → Prop) (E : Value → Shared → Prop),
    (∀ h' tk φ', Ext g φ σ s.heap φ' σ' h' → Q () { s with heap := h', toks := tk }) → wpAny (model prog w) A (setItem va vb vc) Q E s
noncomputable def putS (op : WF) (f fo fi : EF) : SF := fun ρ σ => (f ρ σ).bind fun p => (fo ρ p.2).bind fun q => (fi ρ q.2).bind fun r => (op q.1 r.1 p.1 r.2).bind fun σ' => some (.next, ρ, σ')
theorem sims_put {o i e : Expr} {p pos : Pos} {op : WF} {f fo fi : EF} (h1 : SimE prog w g k nms nm e f) (h2 : SimE prog w g k nms nm o fo) (h3 : SimE prog w g k nms nm i fi) (hp : PrimW prog w g k op)
    (hs : ∀ env, swapsWith e (some (.Subscript o i p)) pos.line env = pure false) : SimS prog w g k nms nm (.Assign [.Subscript o i p] e pos) (putS op f fo fi) := by
  intro env A s φ ρ σ eo hA R F fl ρ' σ' e Q E h
  obtain ⟨⟨c, σ1⟩, e1, e⟩ := obind e
  obtain ⟨⟨a, σ2⟩, e2, e⟩ := obind e
  obtain ⟨⟨b, σ3⟩, e3, e⟩ := obind e
  obtain ⟨σ4, e4, e⟩ := obind e
  (first | obtain ⟨rfl, rfl⟩ := Prod.mk.inj (Option.some.inj e) | cases e)
  refine wpAny_Assign_Subscript (h1 env A s φ ρ σ eo hA R F c _ e1 _ _ fun vc h₁ tk₁ φ₁ X₁ r₁ => ?_) (hs env)
  refine h2 env A _ φ₁ ρ σ1 eo hA X₁.rel (F.ext X₁) a _ e2 _ _ fun va h₂ tk₂ φ₂ X₂ r₂ => ?_
  refine h3 env A _ φ₂ ρ σ2 eo hA X₂.rel ((F.ext X₁).ext X₂) b _ e3 _ _ fun vb h₃ tk₃ φ₃ X₃ r₃ => ?_
  have X := (X₁.trans X₂).trans X₃
  exact hp A _ φ₃ σ3 a b c va vb vc hA X₃.rel (r₂.ext X₃) r₃ ((r₁.ext X₂).ext X₃) _ e4 _ _ fun h₄ tk₄ φ₄ X₄ => h _ h₄ tk₄ φ₄ ((X.trans X₄).toW F.wk) .next ((F.ext X).ext X₄)

/-! loops -/
noncomputable def tgtB (tt : Bool) : It → Bool
  | .enumL .. => tt
  | .enumB .. => tt
  | _ => true
noncomputable def forGo (tt : Bool) (tf : AF) (bf ef : SF) : Nat → It → SF
  | 0, _, _, _ => none
  | n + 1, it, ρ, σ => if tgtB tt it = true then (itNext it σ).bind fun r => match r with
      | none => ef ρ σ
      | some (a, it') => (tf a ρ σ).bind fun p => (bf p.1 p.2).bind fun q => match q.1 with
        | .next => forGo tt tf bf ef n it' q.2.1 q.2.2
        | .cont => forGo tt tf bf ef n it' q.2.1 q.2.2
        | .brk => some (.next, q.2)
        | .ret v => some (.ret v, q.2)
    else none
noncomputable def forS (tt : Bool) (fuel : Nat) (tf : AF) (fi : IF) (bf ef : SF) : SF := fun ρ σ => (fi ρ σ).bind fun p => forGo tt tf bf ef fuel p.1 ρ p.2
theorem sims_for {t i : Expr} {b o : List Stmt} {pos : Pos} {tt : Bool} (fuel : Nat) {tf : AF} {fi : IF} {bf ef : SF} (h1 : SimA prog w g k nms nm xs t tf) (h2 : SimI prog w g k nms nm i fi) (h3 : SimSs prog w g k nms nm b bf) (h4 : SimSs prog w g k nms nm o ef)
    (ht : isTup t = tt) (hf : ∀ env x, foldedSetIterable i env x = pure x) : SimS prog w g k nms nm (.For t i b o pos) (forS tt fuel tf fi bf ef) := by
  intro env A s φ ρ σ eo hA R F fl ρ' σ' e Q E h
  obtain ⟨⟨it0, σ0⟩, e1, e⟩ := obind e
  refine wpAny_For (h2 env A s φ ρ σ eo hA R F it0 σ0 e1 _ _ fun I J h₁ tk₁ φ₁ X₁ hit hJ => ?_) (hf env)
  obtain ⟨Inv, mk, un⟩ : ∃ Inv : Nat → Shared → Prop, (∀ n h' tk φ' ρ1 σ1 it, ExtW g (envW env) φ σ s.heap φ' σ1 h' → FrameOK g nm env φ' σ1.length h' ρ1 → ItOK g φ' σ1.length h' it I J → forGo tt tf bf ef n it ρ1 σ1 = some (fl, ρ', σ') → Inv n { s with heap := h', toks := tk }) ∧
      ∀ n s', Inv n s' → ∃ h' tk φ' ρ1 σ1 it, s' = { s with heap := h', toks := tk } ∧ ExtW g (envW env) φ σ s.heap φ' σ1 h' ∧ FrameOK g nm env φ' σ1.length h' ρ1 ∧ ItOK g φ' σ1.length h' it I J ∧
    forGo tt tf bf ef n it ρ1 σ1 = some (fl, ρ', σ') :=
    ⟨fun n s' => ∃ h' tk φ' ρ1 σ1 it, s' = { s with heap := h', toks := tk } ∧ ExtW g (envW env) φ σ s.heap φ' σ1 h' ∧ FrameOK g nm env φ' σ1.length h' ρ1 ∧ ItOK g φ' σ1.length h' it I J ∧
    forGo tt tf bf ef n it ρ1 σ1 = some (fl, ρ', σ'), fun n h' tk φ' ρ1 σ1 it a b c d => ⟨h', tk, φ', ρ1, σ1, it, rfl, a, b, c, d⟩, fun _ _ h => h⟩
  refine codeAny_forLoop_any Inv ?_ fuel (mk _ h₁ tk₁ φ₁ ρ σ0 it0 (X₁.toW F.wk) (F.ext X₁) hit e)
  intro n s' hI
  obtain ⟨h', tk, φ', ρ1, σ1, it, rfl, X, F1, hit, e⟩ := un n s' hI
  cases n with
  | zero => (first | obtain ⟨rfl, rfl⟩ := Prod.mk.inj (Option.some.inj e) | cases e)
  | succ n =>
    unfold forGo at e
    split at e
    · rename_i htt
      obtain ⟨r, er, e⟩ := obind e
      have htg : tgtOK it t = true := by
        cases it <;> first | rfl | exact ht.trans htt
      refine it_step (tgt := t) hA X.rel hit er htg (fun hn h₂ tk₂ raw => ?_) (fun a it' hr v h₂ tk₂ raw hit₂ ra => ?_)
      · subst hn
        have X2 := X.raw hit.jok hJ raw
        exact h4 env A _ φ' ρ1 σ1 eo hA X2.rel (F1.raw hit.jok raw) fl ρ' σ' e _ _ fun flc h₃ tk₃ φ₃ X₃ r₃ F₃ => h flc h₃ tk₃ φ₃ (X2.trans X₃) r₃ F₃
      · subst hr
        obtain ⟨⟨ρ2, σ2⟩, e2, e⟩ := obind e
        obtain ⟨⟨c, ρ3, σ3⟩, e3, e⟩ := obind e
        have X2 := X.raw hit.jok hJ raw
        refine h1 env A _ φ' ρ1 σ1 a v eo hA X2.rel (F1.raw hit.jok raw) ra ρ2 σ2 e2 _ _ fun h₃ tk₃ φ₃ X₃ F₃ => ?_
        refine h3 env A _ φ₃ ρ2 σ2 eo hA X₃.rel F₃ c ρ3 σ3 e3 _ _ fun flc h₄ tk₄ φ₄ X₄ r₄ F₄ => ?_
        have X5 := (X₃.up (F1.raw hit.jok raw).wk).trans X₄
        have X6 := X2.trans X5
        cases r₄ with
        | next => exact ⟨n, Nat.lt_succ_self n, mk _ h₄ tk₄ φ₄ ρ3 σ3 it' X6 F₄ (hit₂.extW X5) e⟩
        | cont => exact ⟨n, Nat.lt_succ_self n, mk _ h₄ tk₄ φ₄ ρ3 σ3 it' X6 F₄ (hit₂.extW X5) e⟩
        | brk => (first | obtain ⟨rfl, rfl⟩ := Prod.mk.inj (Option.some.inj e) | cases e); exact h _ h₄ tk₄ φ₄ X6 .next F₄
        | ret r => (first | obtain ⟨rfl, rfl⟩ := Prod.mk.inj (Option.some.inj e) | cases e); exact h _ h₄ tk₄ φ₄ X6 (.ret r) F₄
    · (first | obtain ⟨rfl, rfl⟩ := Prod.mk.inj (Option.some.inj e) | cases e)

noncomputable def whileGo (tf : TF) (bf ef : SF) : Nat → SF
  | 0, _, _ => none
  | n + 1, ρ, σ => (tf ρ σ).bind fun p => if p.1 = true then (bf ρ p.2).bind fun q => match q.1 with
      | .next => whileGo tf bf ef n q.2.1 q.2.2
      | .cont => whileGo tf bf ef n q.2.1 q.2.2
      | .brk => some (.next, q.2)
      | .ret v => some (.ret v, q.2)
    else ef ρ p.2
theorem sims_while {t : Expr} {b o : List Stmt} {pos : Pos} (fuel : Nat) {tf : TF} {bf ef : SF} (h1 : SimT prog w g k nms nm t tf) (h3 : SimSs prog w g k nms nm b bf) (h4 : SimSs prog w g k nms nm o ef) :
    SimS prog w g k nms nm (.While t b o pos) (whileGo tf bf ef fuel) := by
  intro env A s φ ρ σ eo hA R F fl ρ' σ' e Q E h
  refine wpAny_While ?_
  obtain ⟨Inv, mk, un⟩ : ∃ Inv : Nat → Shared → Prop, (∀ n h' tk φ' ρ1 σ1, ExtW g (envW env) φ σ s.heap φ' σ1 h' → FrameOK g nm env φ' σ1.length h' ρ1 → whileGo tf bf ef n ρ1 σ1 = some (fl, ρ', σ') → Inv n { s with heap := h', toks := tk }) ∧
      ∀ n s', Inv n s' → ∃ h' tk φ' ρ1 σ1, s' = { s with heap := h', toks := tk } ∧ ExtW g (envW env) φ σ s.heap φ' σ1 h' ∧ FrameOK g nm env φ' σ1.length h' ρ1 ∧
    whileGo tf bf ef n ρ1 σ1 = some (fl, ρ', σ') :=
    ⟨fun n s' => ∃ h' tk φ' ρ1 σ1, s' = { s with heap := h', toks := tk } ∧ ExtW g (envW env) φ σ s.heap φ' σ1 h' ∧ FrameOK g nm env φ' σ1.length h' ρ1 ∧
    whileGo tf bf ef n ρ1 σ1 = some (fl, ρ', σ'), fun n h' tk φ' ρ1 σ1 a b c => ⟨h', tk, φ', ρ1, σ1, rfl, a, b, c⟩, fun _ _ h => h⟩
  refine codeAny_whileLoop Inv ?_ fuel (mk _ s.heap s.toks φ ρ σ ((Ext.refl R).toW F.wk) F e)
  intro n s' hI
  obtain ⟨h', tk, φ', ρ1, σ1, rfl, X, F1, e⟩ := un n s' hI
  cases n with
  | zero => (first | obtain ⟨rfl, rfl⟩ := Prod.mk.inj (Option.some.inj e) | cases e)
  | succ n =>
    unfold whileGo at e
    obtain ⟨⟨c, σ2⟩, e2, e⟩ := obind e
    refine h1 env A _ φ' ρ1 σ1 eo hA X.rel F1 c σ2 e2 _ _ fun h₂ tk₂ φ₂ X₂ => ?_
    have XX := X.trans (X₂.toW F1.wk)
    cases c with
    | false => exact h4 env A _ φ₂ ρ1 σ2 eo hA X₂.rel (F1.ext X₂) fl ρ' σ' e _ _ fun flc h₃ tk₃ φ₃ X₃ r₃ F₃ => h flc h₃ tk₃ φ₃ (XX.trans X₃) r₃ F₃
    | true =>
      obtain ⟨⟨c, ρ3, σ3⟩, e3, e⟩ := obind e
      refine h3 env A _ φ₂ ρ1 σ2 eo hA X₂.rel (F1.ext X₂) c ρ3 σ3 e3 _ _ fun flc h₄ tk₄ φ₄ X₄ r₄ F₄ => ?_
      have X6 := XX.trans X₄
      cases r₄ with
      | next => exact ⟨n, Nat.lt_succ_self n, mk _ h₄ tk₄ φ₄ ρ3 σ3 X6 F₄ e⟩
      | cont => exact ⟨n, Nat.lt_succ_self n, mk _ h₄ tk₄ φ₄ ρ3 σ3 X6 F₄ e⟩
      | brk => (first | obtain ⟨rfl, rfl⟩ := Prod.mk.inj (Option.some.inj e) | cases e); exact h _ h₄ tk₄ φ₄ X6 .next F₄
      | ret r => (first | obtain ⟨rfl, rfl⟩ := Prod.mk.inj (Option.some.inj e) | cases e); exact h _ h₄ tk₄ φ₄ X6 (.ret r) F₄
end
end Mine
end
section
set_option maxRecDepth 100000
namespace Mine

/-! objects that are no part of the state -/
noncomputable def Off (g : Heap) (φ : Nat → Addr) (n : Nat) (h : Heap) (J : List Addr) : Prop := ∀ j ∈ J, (∀ id, id < n → φ id ≠ j) ∧ (∀ items k, h.get? j ≠ some (tupObj items k)) ∧ g.get? j = none
theorem Off.tup {g φ n h h' J} (hJ : Off g φ n h J) (hr : Raw J h h') : ∀ a items k, h.get? a = some (tupObj items k) → h'.get? a = some (tupObj items k) := fun a items k e => hr a _ (fun ha => (hJ a ha).2.1 items k e) e
theorem Rel.off {g φ σ h h' J} (R : Rel g φ σ h) (hJ : Off g φ σ.length h J) (hr : Raw J h h') : Rel g φ σ h' := by
  refine ⟨fun id o e => ?_, R.inj, fun b o e => hr b o (fun hb => by rw [(hJ b hb).2.2] at e; cases e) (R.base b o e), R.fresh⟩
  obtain ⟨ob, hob, hrep⟩ := R.objs id o e
  exact ⟨ob, hr _ _ (fun hb => (hJ _ hb).1 id (List.getElem?_eq_some_iff.mp e).1 rfl) hob, hrep.keeps (fun _ _ => rfl) (Nat.le_refl _) (hJ.tup hr)⟩
theorem FrameOK.off {g nm env φ n h h' ρ J} (F : FrameOK g nm env φ n h ρ) (hJ : Off g φ n h J) (hW : ∀ j ∈ J, ¬ envW env j) (hr : Raw J h h') : FrameOK g nm env φ n h' ρ := by
  have hcell : ∀ {x c ov}, env.kindOf x = some .cell → env.cells.lookup x = some c → h.IsCell c ov → h'.IsCell c ov := fun h1 h2 ⟨o, e, d⟩ => ⟨o, hr _ _ (fun hb => hW _ hb (.inr ⟨_, h1, h2⟩)) e, d⟩
  obtain ⟨m, ⟨oL, es, ep, e1, e2, e3⟩, hv⟩ := F.vars
  refine ⟨⟨m, ⟨oL, es, ep, hr _ _ (fun hb => hW _ hb (.inl rfl)) e1, e2, e3⟩, fun i av e => ?_⟩, fun x hx => ?_, F.lf⟩
  · obtain ⟨x, hx, hk⟩ := hv i av e
    have kr : ∀ {a v}, Rep g φ n h a v → Rep g φ n h' a v := fun r => r.keeps (fun _ _ => rfl) (Nat.le_refl _) (hJ.tup hr)
    exact ⟨x, hx, hk.imp (fun ⟨a, v, b, c⟩ => ⟨a, v, b, kr c⟩) fun ⟨a, c, v, b, d, r⟩ => ⟨a, c, v, b, hcell a b d, kr r⟩⟩
  · obtain ⟨c, ov, h1, h2, h3⟩ := F.cells x hx
    exact ⟨c, ov, h1, hcell hx h1 h2, h3⟩
theorem ExtW.off {g W φ σ h φ' σ' h' h'' J} (X : ExtW g W φ σ h φ' σ' h') (hJ : Off g φ' σ'.length h' J) (h0 : ∀ j ∈ J, h.get? j = none) (hr : Raw J h' h'') : ExtW g W φ σ h φ' σ' h'' := by
  have off : ∀ b o, h.get? b = some o → b ∉ J := fun b o e hb => by rw [h0 b hb] at e; (first | obtain ⟨rfl, rfl⟩ := Prod.mk.inj (Option.some.inj e) | cases e)
  refine ⟨X.rel0, X.rel.off hJ hr, X.agree, X.le, fun b o e h1 h2 => hr b o (off b o e) (X.keep b o e h1 h2), X.new, X.wd, fun b o e => ?_⟩
  obtain ⟨o', e'⟩ := X.live b o e
  exact ⟨o', hr b o' (off b o e) e'⟩
/-- a step that turned nothing old but ours -/
theorem ExtW.old {g W φ σ h φ' σ' h'} (X : ExtW g W φ σ h φ' σ' h') (hW : ∀ b o, W b → h.get? b = some o → False) : Ext g φ σ h φ' σ' h' :=
  ⟨X.rel0, X.rel, X.agree, X.le, fun b o e h1 => X.keep b o e h1 fun hw => hW b o hw e, X.new⟩
theorem base_none {g φ σ h} (R : Rel g φ σ h) {a} (e : h.get? a = none) : g.get? a = none := by
  cases e' : g.get? a with
  | none => rfl
  | some o => have := R.base _ _ e'; rw [e] at this; cases this

/-- a list of the heap taken into the state -/
theorem Ext.adopt {g φ σ h φ' σ' h' D xs vs n} (X : Ext g φ σ h φ' σ' h') (hD : h.get? D = none) (hne : ∀ id, id < σ'.length → φ' id ≠ D) (hob : h'.get? D = some (lstObj vs n)) (hr : Reps g φ' σ'.length h' xs vs) :
    Ext g φ σ h (φput φ' σ'.length D) (σ' ++ [.list xs]) h' ∧ Rep g (φput φ' σ'.length D) (σ' ++ [AO.list xs]).length h' (.ref σ'.length) (.ref D) := by
  have hgD := base_none X.rel0 hD
  have R := X.rel
  have keepR : ∀ {a o}, ORep g φ' σ'.length h' a o → ORep g (φput φ' σ'.length D) (σ'.length + 1) h' a o := fun x =>
    x.keeps (fun id hid => φput_old hid) (Nat.le_succ _) fun _ _ _ e => e
  refine ⟨⟨X.rel0, ⟨fun id o e => ?_, fun i j hi hj e => ?_, R.base, fun id hid => ?_⟩, fun id hid => ?_, ?_, X.keep, fun id h1 h2 => ?_⟩, ?_⟩
  · rw [List.length_append, List.length_singleton]
    by_cases hlt : id < σ'.length
    · rw [List.getElem?_append_left hlt] at e
      obtain ⟨ob', hob', hr'⟩ := R.objs id o e
      rw [φput_old hlt]
      exact ⟨ob', hob', keepR hr'⟩
    · have hid : id = σ'.length := by
        have := (List.getElem?_eq_some_iff.mp e).1
        rw [List.length_append, List.length_singleton] at this
        (first | lia | omega)
      subst hid
      rw [List.getElem?_append_right (Nat.le_refl _), Nat.sub_self] at e
      (first | obtain ⟨rfl, rfl⟩ := Prod.mk.inj (Option.some.inj e) | cases e)
      rw [φput_new]
      exact ⟨_, hob, keepR (.list hr)⟩
  · rw [List.length_append, List.length_singleton] at hi hj
    by_cases h1 : i = σ'.length
    · by_cases h2 : j = σ'.length
      · (first | lia | omega)
      · rw [h1, φput_new, φput_old (by (first | lia | omega))] at e
        exact absurd e.symm (hne j (by (first | lia | omega)))
    · by_cases h2 : j = σ'.length
      · rw [h2, φput_new, φput_old (by (first | lia | omega))] at e
        exact absurd e (hne i (by (first | lia | omega)))
      · rw [φput_old (by (first | lia | omega)), φput_old (by (first | lia | omega))] at e
        exact R.inj i j (by (first | lia | omega)) (by (first | lia | omega)) e
  · rw [List.length_append, List.length_singleton] at hid
    by_cases h1 : id = σ'.length
    · rw [h1, φput_new]; exact hgD
    · rw [φput_old (by (first | lia | omega))]; exact R.fresh id (by (first | lia | omega))
  · rw [φput_old (Nat.lt_of_lt_of_le hid X.le)]; exact X.agree id hid
  · rw [List.length_append]; exact Nat.le_trans X.le (Nat.le_add_right _ _)
  · rw [List.length_append, List.length_singleton] at h2
    by_cases h3 : id = σ'.length
    · rw [h3, φput_new]; exact hD
    · rw [φput_old (by (first | lia | omega))]; exact X.new id h1 (by (first | lia | omega))
  · have := Rep.ref (g := g) (φ := φput φ' σ'.length D) (n := (σ' ++ [AO.list xs]).length) (h := h') σ'.length (by simp)
    rw [φput_new] at this
    exact this

/-! the names of a comprehension's scope -/
noncomputable def relab (nms names : List (Str × NameKind)) : List (Str × NameKind) := names.map fun (n, k) => if (k == .free && nms.lookup n == some .cell) then (n, .cell) else (n, k)
theorem relabel_names {nms env scope} (eo : EnvOK nms env) : (relabel scope env).names = relab nms scope.names := by
  unfold relabel relab
  have h1 : (env.scope.kind == ScopeKind.function) = true := by rw [eo.kind]; rfl
  have h2 : ∀ n, env.kindOf n = nms.lookup n := fun n => by unfold Env.kindOf; rw [eo.names]
  simp only [h1, h2, Bool.and_true]
theorem relab_lookup {nms} : ∀ {names : List (Str × NameKind)} {x k}, (relab nms names).lookup x = some k → (k = .cell ∧ names.lookup x = some .free ∧ nms.lookup x = some .cell) ∨ names.lookup x = some k
  | [], x, k, h => by cases h
  | (n, k0) :: r, x, k, h => by
    have ih := @relab_lookup nms r x k
    unfold relab at h ih
    rw [List.map_cons] at h
    dsimp only at h
    by_cases hc : (k0 == NameKind.free && nms.lookup n == some .cell) = true
    · rw [if_pos hc] at h
      rw [Bool.and_eq_true, beq_iff_eq, beq_iff_eq] at hc
      cases hx : x == n with
      | true =>
        simp only [List.lookup_cons, hx] at h ⊢
        cases h
        exact .inl ⟨rfl, by rw [hc.1], by rw [eq_of_beq hx]; exact hc.2⟩
      | false =>
        simp only [List.lookup_cons, hx] at h ⊢
        exact ih h
    · rw [if_neg hc] at h
      cases hx : x == n with
      | true => simp only [List.lookup_cons, hx] at h ⊢; exact .inr h
      | false => simp only [List.lookup_cons, hx] at h ⊢; exact ih h
theorem relab_free {nms} : ∀ {names : List (Str × NameKind)} {x}, names.lookup x = some .free → nms.lookup x = some .cell → (relab nms names).lookup x = some .cell
  | [], x, h, _ => by cases h
  | (n, k0) :: r, x, h, hn => by
    have ih := @relab_free nms r x
    unfold relab at ih ⊢
    rw [List.map_cons]
    dsimp only
    cases hx : x == n with
    | true =>
      simp only [List.lookup_cons, hx] at h
      injection h with h
      subst h
      have : (NameKind.free == NameKind.free && List.lookup n nms == some NameKind.cell) = true := by rw [← eq_of_beq hx, hn]; rfl
      rw [if_pos this]
      simp only [List.lookup_cons, hx]
    | false =>
      simp only [List.lookup_cons, hx] at h
      by_cases hc : (k0 == NameKind.free && nms.lookup n == some .cell) = true
      · rw [if_pos hc]; simp only [List.lookup_cons, hx]; exact ih h hn
      · rw [if_neg hc]; simp only [List.lookup_cons, hx]; exact ih h hn

noncomputable def clOf (cells : List (Str × Addr)) : List (Str × NameKind) → List (Str × Addr) → List (Str × Addr)
  | [], cs => cs
  | (n, k) :: r, cs => clOf cells r (if k == .free then (n, (cells.lookup n).getD 0) :: cs else cs)
theorem closure_ok {env : Env} : ∀ (names : List (Str × NameKind)) (cs : List (Str × Addr)), (∀ x, (x, NameKind.free) ∈ names → ∃ c, env.cells.lookup x = some c) →
    (do
      let mut cs := cs
      for (name, kind) in names do
        if kind == NameKind.free then cs := (name, ← cellOf env name) :: cs
      return cs : Sem (List (Str × Addr))) = pure (clOf env.cells names cs)
  | [], cs, _ => rfl
  | (n, k) :: r, cs, h => by
    have ih := fun cs => @closure_ok env r cs fun x hx => h x (List.mem_cons_of_mem _ hx)
    by_cases hk : (k == NameKind.free) = true
    · have e := eq_of_beq hk
      subst e
      obtain ⟨c, hc⟩ := h n (List.mem_cons_self ..)
      have h2 : cellOf env n = pure c := by unfold cellOf; rw [hc]
      have h3 : clOf env.cells ((n, NameKind.free) :: r) cs = clOf env.cells r ((n, c) :: cs) := by
        show clOf env.cells r ((n, (env.cells.lookup n).getD 0) :: cs) = _
        rw [hc]; rfl
      rw [h3, ← ih]
      simp only [List.forIn_cons, hk, if_true, h2, pure_bind]
    · have h3 : clOf env.cells ((n, k) :: r) cs = clOf env.cells r cs := by
        show clOf env.cells r (if (k == .free) = true then _ else cs) = _
        rw [if_neg hk]
      rw [h3, ← ih]
      simp only [List.forIn_cons, hk, pure_bind, Bool.false_eq_true, if_false]
theorem clOf_lookup {cells : List (Str × Addr)} : ∀ (names : List (Str × NameKind)) (cs : List (Str × Addr)) {x c}, (∀ x, (x, NameKind.free) ∈ names → ∃ c, cells.lookup x = some c) → (∀ x c, cs.lookup x = some c → cells.lookup x = some c) → (clOf cells names cs).lookup x = some c → cells.lookup x = some c
  | [], cs, x, c, _, h1, h => h1 x c h
  | (n, k) :: r, cs, x, c, h0, h1, h => by
    refine clOf_lookup r _ (fun x hx => h0 x (List.mem_cons_of_mem _ hx)) (fun y d hy => ?_) h
    by_cases hk : (k == NameKind.free) = true
    · rw [if_pos hk] at hy
      have e := eq_of_beq hk
      subst e
      obtain ⟨c', hc⟩ := h0 n (List.mem_cons_self ..)
      cases hx : y == n with
      | true => simp only [List.lookup_cons, hx] at hy; rw [hc] at hy; rw [eq_of_beq hx, hc]; exact hy
      | false => simp only [List.lookup_cons, hx] at hy; exact h1 y d hy
    · rw [if_neg hk] at hy; exact h1 y d hy
theorem clOf_has {cells : List (Str × Addr)} : ∀ (names : List (Str × NameKind)) (cs : List (Str × Addr)) {x}, ((x, NameKind.free) ∈ names ∨ ∃ c, cs.lookup x = some c) → ∃ c, (clOf cells names cs).lookup x = some c
  | [], cs, x, h => by
    rcases h with h | h
    · cases h
    · exact h
  | (n, k) :: r, cs, x, h => by
    refine clOf_has r _ ?_
    rcases h with h | ⟨c, h⟩
    · rcases List.mem_cons.mp h with e | h
      · injection e with e1 e2
        subst e1 e2
        exact .inr ⟨(cells.lookup x).getD 0, by simp [List.lookup_cons]⟩
      · exact .inl h
    · by_cases hk : (k == NameKind.free) = true
      · rw [if_pos hk]
        cases hx : x == n with
        | true => exact .inr ⟨_, by simp only [List.lookup_cons, hx]; rfl⟩
        | false => exact .inr ⟨c, by simp only [List.lookup_cons, hx]; exact h⟩
      · rw [if_neg hk]; exact .inr ⟨c, h⟩
theorem mem_of_lookup {α : Type} : ∀ {l : List (Str × α)} {x k}, l.lookup x = some k → (x, k) ∈ l
  | [], x, k, h => by cases h
  | (n, k0) :: r, x, k, h => by
    cases hx : x == n with
    | true => simp only [List.lookup_cons, hx] at h; cases h; rw [eq_of_beq hx]; exact List.mem_cons_self ..
    | false => simp only [List.lookup_cons, hx] at h; exact List.mem_cons_of_mem _ (mem_of_lookup h)
end Mine
end
section
set_option maxRecDepth 100000
namespace Mine

/-! list comprehensions -/
noncomputable def capρ (cap : List (Option Nat)) (ρ : Fm) : Fm := cap.map fun o => o.bind (Fm.get ρ)
noncomputable def compGo (tt : Bool) (tf : AF) (ts : TF) (ef : EF) : Nat → It → Fm → St → Option (List AV × St)
  | 0, _, _, _ => none
  | n + 1, it, ρ, σ => if tgtB tt it = true then (itNext it σ).bind fun r => match r with
      | none => some ([], σ)
      | some (a, it') => (tf a ρ σ).bind fun p => (ts p.1 p.2).bind fun q => if q.1 = true then (ef p.1 q.2).bind fun r => (compGo tt tf ts ef n it' p.1 r.2).bind fun z => some (r.1 :: z.1, z.2)
        else compGo tt tf ts ef n it' p.1 q.2
    else none
noncomputable def madeL (xs : List AV) (σ : St) : AV × St := (.ref σ.length, σ ++ [.list xs])
noncomputable def compE (tt : Bool) (fuel : Nat) (cap : List (Option Nat)) (fi : IF) (tf : AF) (ts : TF) (ef : EF) : EF := fun ρ σ =>
  (fi ρ σ).bind fun p => (compGo tt tf ts ef fuel p.1 (capρ cap ρ) p.2).bind fun q => some (madeL q.1 q.2)
noncomputable def trueT : TF := fun _ σ => some (true, σ)

section
variable {prog : Program} {w : World} {g : Heap} {k : Nat} {nms : List (Str × NameKind)} {nm : List Str}

variable (prog w g) in
noncomputable def SimIfs (k : Nat) (nms : List (Str × NameKind)) (nm : List Str) (ifs : List Expr) (f : TF) : Prop :=
  ∀ env A s φ ρ σ, EnvOK nms env → Rm A k → Rel g φ σ s.heap → FrameOK g nm env φ σ.length s.heap ρ →
    RunsB prog w g A s φ σ (forIn ifs true fun c r => if r = true then do let ok ← isTrue c env (eval c env); pure (ForInStep.yield ok) else pure (ForInStep.yield r)) (f ρ σ)
theorem simifs_nil : SimIfs prog w g k nms nm [] trueT := by
  intro env A s φ ρ σ eo hA R F b σ' e Q E h
  (first | obtain ⟨rfl, rfl⟩ := Prod.mk.inj (Option.some.inj e) | cases e)
  exact wpAny_tests_nil (h s.heap s.toks φ (Ext.refl R))
theorem simifs_one {c : Expr} {t : TF} (h1 : SimT prog w g k nms nm c t) : SimIfs prog w g k nms nm [c] t := by
  intro env A s φ ρ σ eo hA R F b σ' e Q E h
  exact wpAny_tests_one (h1 env A s φ ρ σ eo hA R F b σ' e _ _ h)

structure CompOK (nms : List (Str × NameKind)) (nm : List Str) (scope : Scope) (cnm : List Str) (cap : List (Option Nat)) (xs : List Str) : Prop where
  kind : scope.kind = .function
  nd : (scope.names.map (·.1)).Nodup
  loc : ∀ x ∈ scope.names, x.2 = .local → scope.names.lookup x.1 = some .local
  free : ∀ x ∈ scope.names, x.2 = .free → nms.lookup x.1 = some .cell
  cap : ∀ (j i : Nat), cap[j]? = some (some i) → ∃ x, cnm[j]? = some x ∧ nm[i]? = some x ∧ scope.names.lookup x = some .free
  own : ∀ x ∈ xs, scope.names.lookup x = some .local ∨ scope.names.lookup x = some .cell

theorem it_self {A s φ σ it I J} (x : ItOK g φ σ s.heap it I J) {Q : Value → Shared → Prop} {E : Value → Shared → Prop} (h : Q (.ref I) s) : wpAny (model prog w) A (pyIter (.ref I)) Q E s := by
  cases x with
  | list hid hI => exact wpAny_pyIter_listiter hI h
  | range hI => exact wpAny_pyIter_rangeiter hI h
  | tup hI ht hr => exact wpAny_pyIter_tupleiter hI h
  | enumL hid hE hI hne => exact wpAny_pyIter_enum hE h
  | enumB hE hI hb hle hne => exact wpAny_pyIter_enum hE h

theorem codeAny_compLoop_own {R : Result → Shared → Prop} {A : Around} {s : Shared} {elt target iter : Expr} {ifs : List Expr} {scope : Scope} {pos : Pos} {it acc : Value} {env : Env} (I : Nat → Shared → Prop)
    (turn : ∀ n s, I n s → wpAny (model prog w) A (pyNext it) (fun r s₁ => match r with
      | none => R (.ok .next) s₁
      | some v => wpAny (model prog w) A (letOwnedTupleGo target it v) (fun _ s₁' => wpAny (model prog w) A (assign target env v) (fun _ s₂ =>
          wpAny (model prog w) A (forIn ifs true fun c r => if r = true then do let ok ← isTrue c env (eval c env); pure (ForInStep.yield ok) else pure (ForInStep.yield r)) (fun ok s₃ =>
            if ok = true then wpAny (model prog w) A (eval elt env) (fun x s₄ =>
              wpAny (model prog w) A (call (.builtin "list.append") [acc, x]) (fun _ s₅ => ∃ m, m < n ∧ I m s₅) (notedBy (model prog w) A env fun e s' => R (.error e) s') s₄) (notedBy (model prog w) A env fun e s' => R (.error e) s') s₃
            else ∃ m, m < n ∧ I m s₃) (notedBy (model prog w) A env fun e s' => R (.error e) s') s₂) (notedBy (model prog w) A env fun e s' => R (.error e) s') s₁') (notedBy (model prog w) A env fun e s' => R (.error e) s') s₁) (notedBy (model prog w) A env fun e s' => R (.error e) s') s)
    (n : Nat) (h : I n s) : codeAny (model prog w) A (.compLoop (.ListComp elt [⟨target, iter, ifs, 0⟩] scope pos) 0 it acc env) R s := by
  refine codeAny_loop rfl I (fun n s hI => ?_) n h
  show wpAny _ A ((compTurn (.ListComp elt [⟨target, iter, ifs, 0⟩] scope pos) 0 it acc env).onRaise (fun x => do noteFrame x env; theTreesLotGoes x)) _ _ s
  refine wpAny_noted ?_
  rw [compTurn_list]
  refine wpAny_bind (wpAny_standAt (wpAny_bind (wpAny_mono (turn n s hI) (fun r s₁ h₁ => ?_) fun _ _ h' => h')))
  cases r with
  | none => exact wpAny_pure h₁
  | some v =>
    refine wpAny_bind (wpAny_mono h₁ (fun _ s₁' h₁' => ?_) fun _ _ h' => h')
    refine wpAny_bind (wpAny_mono h₁' (fun _ s₂ h₂ => wpAny_bind (wpAny_mono h₂ (fun ok s₃ h₃ => ?_) fun _ _ h' => h')) fun _ _ h' => h')
    cases ok with
    | false => exact wpAny_pure ⟨rfl, h₃⟩
    | true =>
      exact wpAny_bind (wpAny_bind (wpAny_mono h₃ (fun x s₄ h₄ => wpAny_bind (wpAny_mono h₄ (fun _ s₅ h₅ => wpAny_pure (wpAny_pure ⟨rfl, h₅⟩)) fun _ _ h' => h')) fun _ _ h' => h'))

structure Dk (φ : Nat → Addr) (n : Nat) (h : Heap) (D : Addr) (vs : List Value) (kk : Nat) : Prop where
  ob : h.get? D = some (lstObj vs kk)
  ne : ∀ id, id < n → φ id ≠ D
theorem Dk.extW {W φ σ h φ' σ' h' D vs kk} (d : Dk φ σ.length h D vs kk) (X : ExtW g W φ σ h φ' σ' h') (hW : ¬ W D) : Dk φ' σ'.length h' D vs kk := by
  refine ⟨X.keep D _ d.ob d.ne hW, fun id hid he => ?_⟩
  by_cases hlt : id < σ.length
  · exact d.ne id hlt (by rw [← X.agree id hlt]; exact he)
  · have := X.new id (Nat.not_lt.mp hlt) hid
    rw [he, d.ob] at this
    cases this
theorem Dk.ext {φ σ h φ' σ' h' D vs kk} (d : Dk φ σ.length h D vs kk) (X : Ext g φ σ h φ' σ' h') : Dk φ' σ'.length h' D vs kk := by
  refine ⟨X.keep D _ d.ob d.ne, fun id hid he => ?_⟩
  by_cases hlt : id < σ.length
  · exact d.ne id hlt (by rw [← X.agree id hlt]; exact he)
  · have := X.new id (Nat.not_lt.mp hlt) hid
    rw [he, d.ob] at this
    cases this
theorem ItOK.rawD {φ n h h' D vs kk it I J} (d : Dk φ n h D vs kk) (x : ItOK g φ n h it I J) (htup : ∀ a items k, h.get? a = some (tupObj items k) → h'.get? a = some (tupObj items k)) (hr : Raw [D] h h') : ItOK g φ n h' it I J := by
  have ne : ∀ a o vs', h.get? a = some o → o.data = .fields vs' → h'.get? a = some o := fun a o vs' e hd => hr a o (fun ha => by
    rw [List.mem_singleton.mp ha, d.ob] at e; (first | obtain ⟨rfl, rfl⟩ := Prod.mk.inj (Option.some.inj e) | cases e); cases hd) e
  cases x with
  | list hid hI => obtain ⟨o, e, c, dd⟩ := hI; exact .list hid ⟨o, ne _ _ _ e dd, c, dd⟩
  | range hI => exact .range (ne _ _ _ hI rfl)
  | tup hI ht hr => obtain ⟨o, e, c, dd⟩ := hI; exact .tup ⟨o, ne _ _ _ e dd, c, dd⟩ (htup _ _ _ ht) (hr.keeps (fun _ _ => rfl) (Nat.le_refl _) htup)
  | enumL hid hE hI hne => obtain ⟨o, e, c, dd⟩ := hI; exact .enumL hid (ne _ _ _ hE rfl) ⟨o, ne _ _ _ e dd, c, dd⟩ hne
  | enumB hE hI hb hle hne => obtain ⟨o, e, c, dd⟩ := hI; exact .enumB (ne _ _ _ hE rfl) ⟨o, ne _ _ _ e dd, c, dd⟩ hb hle hne

theorem Ext.off {φ σ h φ' σ' h' h'' J} (X : Ext g φ σ h φ' σ' h') (hJ : Off g φ' σ'.length h' J) (h0 : ∀ j ∈ J, h.get? j = none) (hr : Raw J h' h'') : Ext g φ σ h φ' σ' h'' :=
  ((X.toW (W := fun _ => False) fun _ _ hf _ => hf.elim).off hJ h0 hr).old fun _ _ hf _ => hf

theorem cellsFrom_app : ∀ (names : List (Str × NameKind)) (n : Nat) (acc : List (Str × Addr)), cellsFrom n names acc = cellsFrom n names [] ++ acc
  | [], _, _ => rfl
  | (x, k) :: r, n, acc => by
    unfold cellsFrom
    split
    · rw [cellsFrom_app r (n + 1) ((x, n) :: acc), cellsFrom_app r (n + 1) [(x, n)], List.append_assoc]
      rfl
    · exact cellsFrom_app r n acc
theorem cellsFrom_key : ∀ (names : List (Str × NameKind)) (n : Nat) {x c}, (x, c) ∈ cellsFrom n names [] → (x, NameKind.cell) ∈ names
  | [], _, _, _, h => by cases h
  | (y, k) :: r, n, x, c, h => by
    unfold cellsFrom at h
    split at h
    · rename_i hk
      rw [cellsFrom_app] at h
      rcases List.mem_append.mp h with h | h
      · exact List.mem_cons_of_mem _ (cellsFrom_key r (n + 1) h)
      · have e := List.mem_singleton.mp h
        injection e with e1 e2
        rw [e1, ← eq_of_beq hk]
        exact List.mem_cons_self ..
    · exact List.mem_cons_of_mem _ (cellsFrom_key r n h)
theorem cellsFrom_has : ∀ (names : List (Str × NameKind)) (n : Nat) (acc : List (Str × Addr)) {x}, ((x, NameKind.cell) ∈ names ∨ (acc.lookup x).isSome = true) → ((cellsFrom n names acc).lookup x).isSome = true
  | [], n, acc, x, h => by
    rcases h with h | h
    · cases h
    · exact h
  | (y, k) :: r, n, acc, x, h => by
    unfold cellsFrom
    split
    · rename_i hk
      refine cellsFrom_has r _ _ ?_
      rcases h with h | h
      · rcases List.mem_cons.mp h with e | h
        · injection e with e1 e2
          subst e1
          exact .inr (by simp [List.lookup_cons])
        · exact .inl h
      · refine .inr ?_
        cases hx : x == y with
        | true => simp only [List.lookup_cons, hx]; rfl
        | false => simp only [List.lookup_cons, hx]; exact h
    · rename_i hk
      refine cellsFrom_has r _ _ ?_
      rcases h with h | h
      · rcases List.mem_cons.mp h with e | h
        · injection e with e1 e2
          subst e2
          exact absurd rfl hk
        · exact .inl h
      · exact .inr h
theorem clOf_key {cells : List (Str × Addr)} : ∀ (names : List (Str × NameKind)) (cs : List (Str × Addr)) {x c}, (clOf cells names cs).lookup x = some c → (x, NameKind.free) ∈ names ∨ cs.lookup x = some c
  | [], cs, x, c, h => .inr h
  | (n, k) :: r, cs, x, c, h => by
    rcases clOf_key r _ h with h | h
    · exact .inl (List.mem_cons_of_mem _ h)
    · by_cases hk : (k == NameKind.free) = true
      · rw [if_pos hk] at h
        cases hx : x == n with
        | true => rw [eq_of_beq hx, eq_of_beq hk]; exact .inl (List.mem_cons_self ..)
        | false => simp only [List.lookup_cons, hx] at h; exact .inr h
      · rw [if_neg hk] at h; exact .inr h
theorem kind_once {names : List (Str × NameKind)} (nd : (names.map (·.1)).Nodup) {x k k'} (h : (x, k) ∈ names) (h' : (x, k') ∈ names) : k = k' := by
  induction names with
  | nil => cases h
  | cons p r ih =>
    obtain ⟨n1, n2⟩ := List.nodup_cons.mp nd
    rcases List.mem_cons.mp h with e | h
    · rcases List.mem_cons.mp h' with e' | h'
      · rw [← e'] at e
        injection e
      · exact absurd (List.mem_map.mpr ⟨(x, k'), h', by rw [← e]⟩) n1
    · rcases List.mem_cons.mp h' with e' | h'
      · exact absurd (List.mem_map.mpr ⟨(x, k), h, by rw [← e']⟩) n1
      · exact ih n2 h h'
theorem newEnv_comp {M : Model} {A : Around} {s : Shared} {E : Value → Shared → Prop} {scope : Scope} {globals bi : Addr} {cl : List (Str × Addr)} {qual : Str} {outer : Env} {Q : Env → Shared → Prop}
    (h : Q (newEnv scope s.heap.objs.size globals (cellsFrom (s.heap.objs.size + 1) scope.names cl) qual none .none (some outer) bi) { s with heap := pushCells (s.heap.push { cls := .type "dict", data := .dict #[] }) scope.names }) :
    wpAny M A (newFunctionEnv scope globals cl [] qual none .none (some outer) bi) Q E s := by
  simp only [newFunctionEnv, Option.isSome_some, if_true]
  refine wpAny_bind (wpAny_alloc ?_)
  refine wpAny_bind (wpAny_layCells _ (fun name kind cells => by cases hkc : kind == NameKind.cell <;> simp [hkc]) _ _ _ _ ?_)
  rw [show ({ s with heap := s.heap.push { cls := .type "dict", data := .dict #[] } } : Shared).heap.objs.size = s.heap.objs.size + 1 from Heap.size_push ..]
  refine wpAny_bind ?_
  rw [List.forIn_nil]
  exact wpAny_pure (wpAny_pure h)

theorem comp_block {A s env φ ρ σ0 σ it I J} {elt target iter : Expr} {ifs : List Expr} {scope : Scope} {pos : Pos} {tt : Bool} (fuel : Nat) {cnm : List Str} {cap : List (Option Nat)} {xs : List Str} {tf : AF} {ts : TF} {ef : EF} {s0 : Heap}
    (h2 : SimA prog w g k (relab nms scope.names) cnm xs target tf) (h3 : SimIfs prog w g k (relab nms scope.names) cnm ifs ts) (h4 : SimE prog w g k (relab nms scope.names) cnm elt ef) (ok : CompOK nms nm scope cnm cap xs)
    (ht : isTup target = tt) (hfu : fuel ≤ 65536) (eo : EnvOK nms env) (hA : Rm A k) (R : Rel g φ σ s.heap) (F : FrameOK g nm env φ σ.length s.heap ρ) (hit : ItOK g φ σ.length s.heap it I J) (hJ : ∀ j ∈ J, s0.get? j = none)
    (X00 : Ext g φ0 σ0 s0 φ σ s.heap)
    {avs σ'} (e : compGo tt tf ts ef fuel it (capρ cap ρ) σ = some (avs, σ')) {E : Value → Shared → Prop} {RR : Value → Addr → Result → Shared → Prop}
    (hRR : ∀ D C h' tk φ' vs n m, Ext g φ0 σ0 s0 φ' σ' h' → s.heap.get? C = none → s.heap.get? D = none → D ≠ C → h'.Ns C m → Dk φ' σ'.length h' D vs n → Reps g φ' σ'.length h' avs vs → RR (.ref D) C (.ok .next) { s with heap := h', toks := tk }) :
    wpAny (model prog w) A (newList []) (fun acc s₃ => wpAny (model prog w) A (newFunctionEnv scope env.globals (clOf env.cells scope.names []) [] env.qual none .none (some env)) (fun cenv s₄ =>
      codeAny (model prog w) A (.compStart (.ListComp elt [⟨target, iter, ifs, 0⟩] scope pos) 0 (.ref I) acc { cenv with scope := relabel scope env }) (RR acc cenv.locals) s₄) E s₃) E s := by
  refine wpAny_newObj_type (newEnv_comp ?_)
  dsimp only
  generalize hH2 : s.heap.push { cls := .type "list", dict := none, data := .seq ([] : List Value).toArray } = H2
  have hC : H2.objs.size = s.heap.objs.size + 1 := by rw [← hH2, Heap.size_push]
  have hDC : s.heap.objs.size ≠ H2.objs.size := by rw [hC]; exact Nat.ne_of_lt (Nat.lt_succ_self _)
  have old : ∀ b o, s.heap.get? b = some o → (pushCells (H2.push { cls := .type "dict", data := .dict #[] }) scope.names).get? b = some o := fun b o e => pushCells_keeps _ _ _ _ (Heap.get?_push_of_some _ (hH2 ▸ Heap.get?_push_of_some _ e))
  have hDob : (pushCells (H2.push { cls := .type "dict", data := .dict #[] }) scope.names).get? s.heap.objs.size = some (lstObj [] 0) := pushCells_keeps _ _ _ _ (Heap.get?_push_of_some _ (hH2 ▸ Heap.get?_push_size _ rfl))
  have hns₁ : (pushCells (H2.push { cls := .type "dict", data := .dict #[] }) scope.names).Ns H2.objs.size (fun _ => none) := (Heap.Ns.new H2 (.type "dict")).keeps (pushCells_keeps _ _)
  have hown := cellsFrom_ok scope.names (H2.push { cls := .type "dict", data := .dict #[] }) (H2.objs.size + 1) [] ⟨fun _ _ hm => (nomatch hm), List.Pairwise.nil⟩ (by rw [Heap.size_push]; exact Nat.le_refl _)
  rw [Heap.size_push] at hown
  generalize pushCells (H2.push { cls := .type "dict", data := .dict #[] }) scope.names = h₁ at old hDob hns₁ hown ⊢
  have hkey : ∀ {x c}, (cellsFrom (H2.objs.size + 1) scope.names []).lookup x = some c → (x, NameKind.cell) ∈ scope.names := fun h => cellsFrom_key _ _ (mem_of_lookup h)
  have hhas : ∀ {x}, (x, NameKind.cell) ∈ scope.names → ∃ c, (cellsFrom (H2.objs.size + 1) scope.names []).lookup x = some c := fun h => Option.isSome_iff_exists.mp (cellsFrom_has _ _ _ (.inl h))
  rw [cellsFrom_app]
  generalize cellsFrom (H2.objs.size + 1) scope.names [] = own at hown hkey hhas ⊢
  have fresh : ∀ a, s.heap.objs.size ≤ a → s.heap.get? a = none := fun a ha => by
    cases e : s.heap.get? a with
    | none => rfl
    | some o' => exact absurd (Heap.lt_size e) (Nat.not_lt.mpr ha)
  generalize hDd : s.heap.objs.size = D at *
  generalize hCc : H2.objs.size = C at *
  have hCf : s.heap.get? C = none := fresh _ (by rw [hC]; exact Nat.le_succ _)
  have hDf : s.heap.get? D = none := fresh _ (Nat.le_refl _)
  have ownF : ∀ {x c}, own.lookup x = some c → s.heap.get? c = none ∧ D ≠ c ∧ h₁.IsCell c none := fun h => by
    obtain ⟨h1, h2⟩ := hown.empty _ _ (mem_of_lookup h)
    exact ⟨fresh _ (by (first | lia | omega)), by (first | lia | omega), h1⟩
  have fr0 : ∀ a, s.heap.get? a = none → s0.get? a = none := fun a ha => by
    cases e' : s0.get? a with
    | none => rfl
    | some o => obtain ⟨o', e''⟩ := X00.live _ _ e'; rw [ha] at e''; cases e''
  have hCg := base_none R hCf
  have hDg := base_none R hDf
  have X0 := Ext.grow R old
  -- the comprehension's frame
  have hfree : ∀ x, (x, NameKind.free) ∈ scope.names → ∃ c, env.cells.lookup x = some c := fun x hx => by
    have := ok.free _ hx rfl
    obtain ⟨c, ov, h1, _⟩ := F.cells x (by unfold Env.kindOf; rw [eo.names]; exact this)
    exact ⟨c, h1⟩
  have hcl : ∀ {x c}, (clOf env.cells scope.names []).lookup x = some c → env.cells.lookup x = some c := fun h => clOf_lookup _ [] hfree (fun _ _ h => by cases h) h
  have kO : ∀ x, env.kindOf x = nms.lookup x := fun x => by unfold Env.kindOf; rw [eo.names]
  have hclL : ∀ {x c}, (clOf env.cells scope.names []).lookup x = some c → ∃ o, s.heap.get? c = some o := fun {x c} h => by
    rcases clOf_key _ _ h with h1 | h1
    · obtain ⟨c', ov, h2, ⟨o, h3, _⟩, _⟩ := F.cells x (by rw [kO]; exact ok.free _ h1 rfl)
      rw [hcl h] at h2
      cases h2
      exact ⟨o, h3⟩
    · cases h1
  have hfreeOwn : ∀ {x}, (x, NameKind.free) ∈ scope.names → own.lookup x = none := fun {x} h => by
    cases e : own.lookup x with
    | none => rfl
    | some c => have := kind_once ok.nd h (hkey e); cases this
  have hCL : ∀ {x c}, (own ++ clOf env.cells scope.names []).lookup x = some c → own.lookup x = some c ∨ (own.lookup x = none ∧ (clOf env.cells scope.names []).lookup x = some c) := fun {x c} h => by
    rw [List.lookup_append] at h
    cases e : own.lookup x with
    | none => rw [e] at h; exact .inr ⟨rfl, h⟩
    | some d => rw [e] at h; exact .inl h
  have hCL1 : ∀ {x c}, own.lookup x = some c → (own ++ clOf env.cells scope.names []).lookup x = some c := fun h => by rw [List.lookup_append, h]; rfl
  have hCL2 : ∀ {x c}, own.lookup x = none → (clOf env.cells scope.names []).lookup x = some c → (own ++ clOf env.cells scope.names []).lookup x = some c := fun h h' => by rw [List.lookup_append, h, h']; rfl
  have cO : ∀ x, (compEnvC scope (own ++ clOf env.cells scope.names []) C env).kindOf x = (relab nms scope.names).lookup x := fun x => by
    show (relabel scope env).names.lookup x = _
    rw [relabel_names eo]
  have hcell : ∀ x, (relab nms scope.names).lookup x = some .cell → (scope.names.lookup x = some .free ∧ nms.lookup x = some .cell) ∨ scope.names.lookup x = some .cell := fun x hx => by
    rcases relab_lookup hx with ⟨_, h1, h2⟩ | h1
    · exact .inl ⟨h1, h2⟩
    · exact .inr h1
  have ceo : EnvOK (relab nms scope.names) (compEnvC scope (own ++ clOf env.cells scope.names []) C env) := by
    refine ⟨?_, relabel_names eo, eo.globals, eo.builtins, fun x y c h1 h2 => ?_⟩
    · show (relabel scope env).kind = _
      unfold relabel
      exact ok.kind
    · rcases hCL h1 with h1 | ⟨_, h1⟩ <;> rcases hCL h2 with h2 | ⟨_, h2⟩
      · exact name_of_addr hown.apart (mem_of_lookup h1) (mem_of_lookup h2)
      · obtain ⟨o, ho⟩ := hclL h2
        rw [(ownF h1).1] at ho; cases ho
      · obtain ⟨o, ho⟩ := hclL h1
        rw [(ownF h2).1] at ho; cases ho
      · exact eo.apart x y c (hcl h1) (hcl h2)
  have F1 := F.ext X0
  have cF : FrameOK g cnm (compEnvC scope (own ++ clOf env.cells scope.names []) C env) φ σ.length h₁ (capρ cap ρ) := by
    obtain ⟨m, hn, hm⟩ := F1.vars
    refine ⟨⟨_, hns₁, fun j av hj => ?_⟩, fun x hx => ?_, hCg⟩
    · have hj' : ∃ i, cap[j]? = some (some i) ∧ Fm.get ρ i = some av := by
        unfold capρ Fm.get at hj
        rw [List.getD_eq_getElem?_getD, List.getElem?_map] at hj
        cases hc : cap[j]? with
        | none => rw [hc] at hj; cases hj
        | some o =>
          cases o with
          | none => rw [hc] at hj; cases hj
          | some i => rw [hc] at hj; exact ⟨i, rfl, hj⟩
      obtain ⟨i, hc, hi⟩ := hj'
      obtain ⟨x, hx1, hx2, hx3⟩ := ok.cap j i hc
      have hxc := ok.free _ (mem_of_lookup hx3) rfl
      obtain ⟨x', hx', hv⟩ := hm i av hi
      rw [hx2] at hx'
      cases hx'
      refine ⟨x, hx1, .inr ⟨by rw [cO]; exact relab_free hx3 hxc, ?_⟩⟩
      rcases hv with ⟨h1, _⟩ | ⟨h1, c, v, h2, h3, h4⟩
      · rw [kO, hxc] at h1; cases h1
      · obtain ⟨c', hc'⟩ := clOf_has (cells := env.cells) scope.names [] (.inl (mem_of_lookup hx3))
        have := hcl hc'
        rw [h2] at this
        cases this
        exact ⟨c, v, hCL2 (hfreeOwn (mem_of_lookup hx3)) hc', h3, h4⟩
    · rw [cO] at hx
      rcases hcell x hx with ⟨h1, h2⟩ | h1
      · obtain ⟨c, ov, h3, h4, h5⟩ := F1.cells x (by rw [kO]; exact h2)
        obtain ⟨c', hc'⟩ := clOf_has (cells := env.cells) scope.names [] (.inl (mem_of_lookup h1))
        have := hcl hc'
        rw [h3] at this
        cases this
        exact ⟨c, ov, hCL2 (hfreeOwn (mem_of_lookup h1)) hc', h4, h5⟩
      · obtain ⟨c, hc⟩ := hhas (mem_of_lookup h1)
        obtain ⟨f1, f2, f3⟩ := ownF hc
        exact ⟨c, none, hCL1 hc, f3, base_none R f1⟩
  have hW : ∀ b, tgtW (compEnvC scope (own ++ clOf env.cells scope.names []) C env) xs b → s.heap.get? b = none ∧ D ≠ b := by
    rintro b (rfl | ⟨x, hx, h1, h9⟩)
    · exact ⟨hCf, hDC⟩
    · rw [cO] at h1
      rcases hcell x h1 with ⟨h3, _⟩ | h3
      · rcases ok.own x hx with h2 | h2 <;> (rw [h2] at h3; cases h3)
      · obtain ⟨c, hc⟩ := hhas (mem_of_lookup h3)
        have : (own ++ clOf env.cells scope.names []).lookup x = some b := h9
        rw [hCL1 hc] at this
        cases this
        exact ⟨(ownF hc).1, (ownF hc).2.1⟩
  have hWD : ¬ tgtW (compEnvC scope (own ++ clOf env.cells scope.names []) C env) xs D := fun h => (hW D h).2 rfl
  have main : ∀ s₃ : Shared, s₃ = { s with heap := h₁ } →
      codeAny (model prog w) A (.compLoop (.ListComp elt [⟨target, iter, ifs, 0⟩] scope pos) 0 (.ref I) (.ref D) (compEnvC scope (own ++ clOf env.cells scope.names []) C env))
        (RR (.ref D) C) s₃ := by
    rintro s₃ rfl
    have hloc : (compEnvC scope (own ++ clOf env.cells scope.names []) C env).locals = C := rfl
    generalize compEnvC scope (own ++ clOf env.cells scope.names []) C env = cE at ceo cF hW hWD hloc ⊢
    have hDne : ∀ id, id < σ.length → φ id ≠ D := fun id hid he => by
      obtain ⟨ob, hob, _⟩ := R.objs id (σ[id]'hid) (List.getElem?_eq_getElem hid)
      rw [he, hDf] at hob; cases hob
    have wk0 : WD (tgtW cE xs) s0 := fun b o hw e => by rw [fr0 _ (hW b hw).1] at e; (first | obtain ⟨rfl, rfl⟩ := Prod.mk.inj (Option.some.inj e) | cases e)
    obtain ⟨Inv, mk, un⟩ : ∃ Inv : Nat → Shared → Prop, (∀ n h' tk φ' ρ1 σ1 it acc vs kk rest, ExtW g (tgtW cE xs) φ0 σ0 s0 φ' σ1 h' → FrameOK g cnm cE φ' σ1.length h' ρ1 → ItOK g φ' σ1.length h' it I J → Dk φ' σ1.length h' D vs kk → Reps g φ' σ1.length h' acc vs → acc.length + n ≤ fuel →
        avs = acc ++ rest → compGo tt tf ts ef n it ρ1 σ1 = some (rest, σ') → Inv n { s with heap := h', toks := tk }) ∧
        ∀ n s', Inv n s' → ∃ h' tk φ' ρ1 σ1 it acc vs kk rest, s' = { s with heap := h', toks := tk } ∧ ExtW g (tgtW cE xs) φ0 σ0 s0 φ' σ1 h' ∧
      FrameOK g cnm cE φ' σ1.length h' ρ1 ∧ ItOK g φ' σ1.length h' it I J ∧ Dk φ' σ1.length h' D vs kk ∧ Reps g φ' σ1.length h' acc vs ∧ acc.length + n ≤ fuel ∧
      avs = acc ++ rest ∧ compGo tt tf ts ef n it ρ1 σ1 = some (rest, σ') :=
      ⟨fun n s' => ∃ h' tk φ' ρ1 σ1 it acc vs kk rest, s' = { s with heap := h', toks := tk } ∧ ExtW g (tgtW cE xs) φ0 σ0 s0 φ' σ1 h' ∧
      FrameOK g cnm cE φ' σ1.length h' ρ1 ∧ ItOK g φ' σ1.length h' it I J ∧ Dk φ' σ1.length h' D vs kk ∧ Reps g φ' σ1.length h' acc vs ∧ acc.length + n ≤ fuel ∧
      avs = acc ++ rest ∧ compGo tt tf ts ef n it ρ1 σ1 = some (rest, σ'), fun n h' tk φ' ρ1 σ1 it acc vs kk rest a1 a2 a3 a4 a5 a6 a7 a8 => ⟨h', tk, φ', ρ1, σ1, it, acc, vs, kk, rest, rfl, a1, a2, a3, a4, a5, a6, a7, a8⟩, fun _ _ h => h⟩
    refine codeAny_compLoop_own Inv ?_ fuel
      (mk _ h₁ _ φ (capρ cap ρ) σ it [] [] 0 avs ((X00.trans X0).toW wk0) cF (hit.extW (X0.toW F.wk)) ⟨hDob, hDne⟩ .nil (by simp) rfl e)
    intro n s' hI
    obtain ⟨h', tk, φ', ρ1, σ1, it, acc, vs, kk, rest, rfl, X, cF1, hit1, dk, hacc, hlen, havs, e⟩ := un n s' hI
    cases n with
    | zero => (first | obtain ⟨rfl, rfl⟩ := Prod.mk.inj (Option.some.inj e) | cases e)
    | succ n =>
      unfold compGo at e
      split at e
      · rename_i htt
        obtain ⟨r, er, e⟩ := obind e
        have htg : tgtOK it target = true := by
          cases it <;> first | rfl | exact ht.trans htt
        refine it_step (tgt := target) hA X.rel hit1 er htg (fun hn h₂ tk₂ raw => ?_) (fun a it' hr v h₂ tk₂ raw hit₂ ra => ?_)
        · subst hn
          have hDJ : D ∉ J := hit1.jok.off dk.ob fun vs h => by cases h
          have X2 := X.raw hit1.jok hJ raw
          injection e with e
          injection e with e1 e2
          subst e1 e2
          rw [List.append_nil] at havs
          subst havs
          obtain ⟨m, hm, _⟩ := (cF1.raw hit1.jok raw).vars
          rw [hloc] at hm
          exact hRR D C h₂ tk₂ φ' vs kk m (X2.old fun b o hw e => by rw [fr0 _ (hW b hw).1] at e; cases e) hCf hDf hDC hm ⟨raw D _ hDJ dk.ob, dk.ne⟩ (hacc.keeps (fun _ _ => rfl) (Nat.le_refl _) (hit1.jok.tup raw))
        · subst hr
          have hDJ : D ∉ J := hit1.jok.off dk.ob fun vs h => by cases h
          obtain ⟨⟨ρ2, σ2⟩, e2, e⟩ := obind e
          obtain ⟨⟨c, σ3⟩, e3, e⟩ := obind e
          have X2 := X.raw hit1.jok hJ raw
          have cF2 := cF1.raw hit1.jok raw
          have dk2 : Dk φ' σ1.length h₂ D vs kk := ⟨raw D _ hDJ dk.ob, dk.ne⟩
          have hacc2 := hacc.keeps (fun _ _ => rfl) (Nat.le_refl _) (hit1.jok.tup raw)
          refine h2 _ A _ φ' ρ1 σ1 a v ceo hA X2.rel cF2 ra ρ2 σ2 e2 _ _ fun h₃ tk₃ φ₃ X₃ F₃ => ?_
          refine h3 _ A _ φ₃ ρ2 σ2 ceo hA X₃.rel F₃ c σ3 e3 _ _ fun h₄ tk₄ φ₄ X₄ => ?_
          have X4 := (X2.trans X₃).trans (X₄.toW (F₃.wkT xs))
          have F4 := F₃.ext X₄
          have dk4 := (dk2.extW X₃ hWD).ext X₄
          have hit4 := (hit₂.extW X₃).extW (X₄.toW (F₃.wkT xs))
          have hacc4 := (hacc2.extW X₃).ext X₄
          cases c with
          | false =>
            rw [if_neg (by decide)]
            dsimp only at e
            rw [if_neg (by decide)] at e
            exact ⟨n, Nat.lt_succ_self n, mk _ h₄ tk₄ φ₄ ρ2 σ3 it' acc vs kk rest X4 F4 hit4 dk4 hacc4 (by (first | lia | omega)) havs e⟩
          | true =>
            rw [if_pos rfl]
            dsimp only at e
            rw [if_pos rfl] at e
            obtain ⟨⟨x, σ4⟩, e4, e⟩ := obind e
            obtain ⟨⟨z, σ5⟩, e5, e⟩ := obind e
            injection e with e
            injection e with e6 e7
            subst e6 e7
            refine h4 _ A _ φ₄ ρ2 σ3 ceo hA X₄.rel F4 x σ4 e4 _ _ fun xv h₅ tk₅ φ₅ X₅ r₅ => ?_
            have X5 := X4.trans (X₅.toW (F4.wkT xs))
            have F5 := F4.ext X₅
            have dk5 := dk4.ext X₅
            have hit5 := hit4.extW (X₅.toW (F4.wkT xs))
            have hacc5 := hacc4.ext X₅
            have hl : h₅.PlainList D vs.toArray := ⟨kk, dk5.ob⟩
            refine wpAny_list_append_plain hl (fun h₆ hl₆ hsb => ?_) (by
              have h1 := hacc5.length
              have h2 : vs.toArray.size = vs.length := by simp
              rw [h2, h1]
              exact szl (by (first | lia | omega)))
            obtain ⟨k6, hob6⟩ := hl₆
            have raw6 : Raw [D] h₅ h₆ := fun b o hb e => hsb.extBut b o (by simpa using hb) e
            have off6 : Off g φ₅ σ4.length h₅ [D] := fun j hj => by
              rw [List.mem_singleton.mp hj]
              exact ⟨dk5.ne, (fun items k he => by rw [dk5.ob] at he; have h9 := congrArg Obj.cls (Option.some.inj he); injection h9 with h9; exact absurd h9 (by decide)), hDg⟩
            have hwD : ∀ j ∈ [D], ¬ envW cE j := fun j hj hw => by
              rw [List.mem_singleton.mp hj] at hw
              rcases F5.wk D _ hw dk5.ob with ⟨es, ep, hd⟩ | ⟨v, hd⟩ <;> cases hd
            refine ⟨n, Nat.lt_succ_self n, mk _ h₆ tk₅ φ₅ ρ2 σ4 it' (acc ++ [x]) (vs ++ [xv]) k6 z (X5.off off6 (fun j hj => by rw [List.mem_singleton.mp hj]; exact fr0 _ hDf) raw6) (F5.off off6 hwD raw6)
              (hit5.rawD dk5 (off6.tup raw6) raw6) ⟨?_, dk5.ne⟩ ((hacc5.snoc r₅).keeps (fun _ _ => rfl) (Nat.le_refl _) (off6.tup raw6)) ?_ ?_ e5⟩
            · rw [hob6]; simp
            · rw [List.length_append, List.length_singleton]; (first | lia | omega)
            · rw [havs, List.append_assoc]; rfl
      · (first | obtain ⟨rfl, rfl⟩ := Prod.mk.inj (Option.some.inj e) | cases e)
  exact codeAny_compStart_list (main _ rfl) (it_self (hit.extW (X0.toW F.wk)) (main _ rfl))

theorem closureFor_ok {env scope} (eo : EnvOK nms env) {φ n h ρ} (F : FrameOK g nm env φ n h ρ) (hf : ∀ x ∈ scope.names, x.2 = .free → nms.lookup x.1 = some .cell) : closureFor scope env = pure (clOf env.cells scope.names []) := by
  unfold closureFor
  refine closure_ok scope.names [] fun x hx => ?_
  have := hf _ hx rfl
  obtain ⟨c, ov, h1, _⟩ := F.cells x (by unfold Env.kindOf; rw [eo.names]; exact this)
  exact ⟨c, h1⟩

theorem comp_any {env A s φ ρ σ} {elt target iter : Expr} {ifs : List Expr} {scope : Scope} {pos p2 : Pos} {tt : Bool} {fuel : Nat} {cnm : List Str} {cap : List (Option Nat)} {xs : List Str} {fi : IF} {tf : AF} {ts : TF} {ef : EF}
    (h1 : SimI prog w g k nms nm iter fi) (h2 : SimA prog w g k (relab nms scope.names) cnm xs target tf) (h3 : SimIfs prog w g k (relab nms scope.names) cnm ifs ts) (h4 : SimE prog w g k (relab nms scope.names) cnm elt ef) (ok : CompOK nms nm scope cnm cap xs)
    (ht : isTup target = tt) (hfu : fuel ≤ 65536) (hf : ∀ env x, foldedSetIterable iter env x = pure x) (eo : EnvOK nms env) (hA : Rm A k) (R : Rel g φ σ s.heap) (F : FrameOK g nm env φ σ.length s.heap ρ)
    {av σ'} (e : compE tt fuel cap fi tf ts ef ρ σ = some (av, σ')) {use : Option (Value → Sem Unit)} {Q E : Value → Shared → Prop}
    (h : ∀ v C h' tk φ', Ext g φ σ s.heap φ' σ' h' → Rep g φ' σ'.length h' av v → s.heap.get? C = none → (∃ m, h'.Ns C m) → compPost (model prog w) A E use Q v C (.ok .next) { s with heap := h', toks := tk }) :
    wpAny (model prog w) A (comprehension (.ListComp elt [⟨target, iter, ifs, 0⟩] scope pos) scope env p2 (newList []) false (eval iter env) use) Q E s := by
  obtain ⟨⟨it, σ1⟩, e1, e⟩ := obind e
  obtain ⟨⟨avs, σ2⟩, e2, e⟩ := obind e
  injection e with e
  unfold madeL at e
  injection e with e3 e4
  subst e3 e4
  refine wpAny_comprehension_free rfl (hf env) (closureFor_ok eo F ok.free) ok.kind ok.loc (h1 env A s φ ρ σ eo hA R F it σ1 e1 _ _ fun I J h₁ tk₁ φ₁ X₁ hit hJ => ?_)
  refine comp_block fuel h2 h3 h4 ok ht hfu eo hA X₁.rel (F.ext X₁) hit hJ X₁ e2 fun D C h' tk φ' vs n m X hC hD hne hm dk hr => ?_
  have f0 : ∀ a, h₁.get? a = none → s.heap.get? a = none := fun a ha => by
    cases e' : s.heap.get? a with
    | none => rfl
    | some o => obtain ⟨o', e''⟩ := X₁.live _ _ e'; rw [ha] at e''; cases e''
  obtain ⟨X2, r2⟩ := X.adopt (f0 D hD) dk.ne dk.ob hr
  exact h _ C h' tk _ X2 r2 (f0 C hC) ⟨m, hm⟩

/-- the comprehension's own frame let go -/
theorem Ext.offC {φ σ h φ' σ' h' h'' C m} (X : Ext g φ σ h φ' σ' h') (hC : h.get? C = none) (hm : h'.Ns C m) (hs : Heap.SameBut C h' h'') : Ext g φ σ h φ' σ' h'' := by
  obtain ⟨o, es, ep, e1, e2, _⟩ := hm
  refine X.off (J := [C]) (fun j hj => ?_) (fun j hj => by rw [List.mem_singleton.mp hj]; exact hC) fun b o hb e => hs.extBut b o (by simpa using hb) e
  rw [List.mem_singleton.mp hj]
  exact ⟨X.rel.apart e1 (not_mut_dict e2), (fun items k he => by rw [e1] at he; cases he; cases e2), base_none X.rel0 hC⟩

theorem sim_comp {elt target iter : Expr} {ifs : List Expr} {scope : Scope} {pos : Pos} (tt : Bool) (fuel : Nat) (cnm : List Str) (cap : List (Option Nat)) (xs : List Str) {fi : IF} {tf : AF} {ts : TF} {ef : EF}
    (ok : CompOK nms nm scope cnm cap xs) (h1 : SimI prog w g k nms nm iter fi) (h2 : SimA prog w g k (relab nms scope.names) cnm xs target tf) (h3 : SimIfs prog w g k (relab nms scope.names) cnm ifs ts) (h4 : SimE prog w g k (relab nms scope.names) cnm elt ef)
    (ht : isTup target = tt) (hfu : fuel ≤ 65536) (hf : ∀ env x, foldedSetIterable iter env x = pure x) : SimE prog w g k nms nm (.ListComp elt [⟨target, iter, ifs, 0⟩] scope pos) (compE tt fuel cap fi tf ts ef) := by
  intro env A s φ ρ σ eo hA R F av σ' e Q E h
  rw [eval_ListComp]
  refine comp_any h1 h2 h3 h4 ok ht hfu hf eo hA R F e fun v C h' tk φ' X r hC hm => ?_
  obtain ⟨m, hm⟩ := hm
  refine ⟨m, hm, fun h'' hs => ?_⟩
  have X2 := X.offC hC hm hs
  refine h v h'' tk φ' X2 (r.keeps (fun _ _ => rfl) (Nat.le_refl _) fun a items k e => hs.extBut a _ (fun hac => ?_) e)
  obtain ⟨o, es, ep, e1, e2, _⟩ := hm
  rw [hac, e1] at e; (first | obtain ⟨rfl, rfl⟩ := Prod.mk.inj (Option.some.inj e) | cases e); cases e2

theorem sims_assignComp {x : Str} {px : Pos} {elt target iter : Expr} {ifs : List Expr} {scope : Scope} {pos ap : Pos} (i : Nat) (tt : Bool) (fuel : Nat) (cnm : List Str) (cap : List (Option Nat)) (xs : List Str) {fi : IF} {tf : AF} {ts : TF} {ef : EF}
    (ok : CompOK nms nm scope cnm cap xs) (h1 : SimI prog w g k nms nm iter fi) (h2 : SimA prog w g k (relab nms scope.names) cnm xs target tf) (h3 : SimIfs prog w g k (relab nms scope.names) cnm ifs ts) (h4 : SimE prog w g k (relab nms scope.names) cnm elt ef)
    (ht : isTup target = tt) (hfu : fuel ≤ 65536) (hf : ∀ env x, foldedSetIterable iter env x = pure x) (hx : nm[i]? = some x) (hk : stKind nms x = true) (hnd : nm.Nodup)
    (hs : ∀ env, EnvOK nms env → swapsWith (.ListComp elt [⟨target, iter, ifs, 0⟩] scope pos) (some (.Name x px)) ap.line env = pure true) :
    SimS prog w g k nms nm (.Assign [.Name x px] (.ListComp elt [⟨target, iter, ifs, 0⟩] scope pos) ap) (asgS i (compE tt fuel cap fi tf ts ef)) := by
  intro env A s φ ρ σ eo hA R F fl ρ' σ' e Q E h
  obtain ⟨⟨a, σ1⟩, e1, e⟩ := obind e
  (first | obtain ⟨rfl, rfl⟩ := Prod.mk.inj (Option.some.inj e) | cases e)
  rw [exec_Assign_Name_used _ _ _ _ (hs env eo)]
  refine wpAny_bind (wpAny_standAt ?_)
  refine wpAny_bind ?_
  rw [arm_evalThenUse_ListComp]
  refine wpAny_bind (comp_any h1 h2 h3 h4 ok ht hfu hf eo hA R F e1 fun v C h' tk φ' X r hC hm => ?_)
  refine wpAny_assign_Name (sim_store (xs := [x]) eo X.rel (F.ext X) r hx hk hnd (List.mem_singleton_self x) fun h₂ tk₂ X₂ F₂ => ?_)
  obtain ⟨m, hm⟩ := hm
  obtain ⟨o, es, ep, e1, e2, hme⟩ := id hm
  have hCW : ¬ envW env C := by
    rintro (rfl | ⟨y, hy, hc⟩)
    · obtain ⟨m, ⟨o, es, ep, e, _⟩, _⟩ := F.vars; rw [hC] at e; (first | obtain ⟨rfl, rfl⟩ := Prod.mk.inj (Option.some.inj e) | cases e)
    · obtain ⟨c, ov, h1, ⟨o, e, _⟩, _⟩ := F.cells y hy
      rw [hc] at h1; cases h1; rw [hC] at e; (first | obtain ⟨rfl, rfl⟩ := Prod.mk.inj (Option.some.inj e) | cases e)
  have e1' := X₂.keep C o e1 (X.rel.apart e1 (not_mut_dict e2)) fun hw => hCW hw.up
  have XX := (X.toW F.wk).trans (X₂.up (F.ext X).wk)
  refine ⟨m, ⟨o, es, ep, e1', e2, hme⟩, fun h₃ hs₃ => ?_⟩
  have off : Off g φ' σ1.length h₂ [C] := fun j hj => by
    rw [List.mem_singleton.mp hj]
    exact ⟨X₂.rel.apart e1' (not_mut_dict e2), (fun items k he => by rw [e1'] at he; cases he; cases e2), base_none X.rel0 hC⟩
  have raw : Raw [C] h₂ h₃ := fun b o hb e => hs₃.extBut b o (by simpa using hb) e
  exact wpAny_pure (wpAny_pure (h _ h₃ tk₂ φ' (XX.off off (fun j hj => by rw [List.mem_singleton.mp hj]; exact hC) raw) .next (F₂.off off (fun j hj => by rw [List.mem_singleton.mp hj]; exact hCW) raw)))
end
end Mine
end
section
set_option maxRecDepth 100000
namespace Mine

/-! functions of the program -/
structure FnOK (g : Heap) (a : Addr) (fd : FuncData) (body : List Stmt) (nms : List (Str × NameKind)) (params : List Str) : Prop where
  ob : ∃ o, g.get? a = some o ∧ o.data = .func fd
  lim : g.NoLimit
  code : g.CodeRec fd.code fd.qualname
  body : fd.body = .stmts body
  names : fd.scope.names = nms
  kind : fd.scope.kind = .function
  coro : fd.scope.isCoroutine = false
  gen : fd.scope.isGenerator = false
  clo : fd.closure = []
  glob : fd.globals = mainGlobals
  bi : fd.builtins = builtinsNs
  par : ∀ x ∈ params, stKind nms x = true

theorem bind_lookup {kindOf : Str → Option NameKind} : ∀ (params : List Str) (vs : List Value) (m cm : Str → Option Value), params.Nodup → (∀ x ∈ params, kindOf x = some .local ∨ kindOf x = some .cell) →
    (∀ x, x ∉ params → bindL kindOf (params.zip vs) m x = m x ∧ bindC kindOf (params.zip vs) cm x = cm x) ∧
    (∀ (i : Nat) x v, params[i]? = some x → vs[i]? = some v → (kindOf x = some .local → bindL kindOf (params.zip vs) m x = some v) ∧ (kindOf x = some .cell → bindC kindOf (params.zip vs) cm x = some v))
  | [], vs, m, cm, _, _ => ⟨fun x _ => ⟨rfl, rfl⟩, fun i x v h => by simp at h⟩
  | p :: ps, [], m, cm, _, _ => ⟨fun x _ => ⟨rfl, rfl⟩, fun i x v _ h => by simp at h⟩
  | p :: ps, u :: vs, m, cm, hn, hk => by
    obtain ⟨hp, hn'⟩ := List.nodup_cons.mp hn
    have ih := fun m cm => bind_lookup (kindOf := kindOf) ps vs m cm hn' fun x hx => hk x (List.mem_cons_of_mem _ hx)
    rcases hk p (List.mem_cons_self ..) with hl | hc
    · have e1 : bindL kindOf ((p :: ps).zip (u :: vs)) m = bindL kindOf (ps.zip vs) (fun y => if y = p then some u else m y) := by
        show bindL kindOf ((p, u) :: ps.zip vs) m = _
        rw [bindL, if_pos hl]
      have e2 : bindC kindOf ((p :: ps).zip (u :: vs)) cm = bindC kindOf (ps.zip vs) cm := by
        show bindC kindOf ((p, u) :: ps.zip vs) cm = _
        rw [bindC, if_pos hl]
      rw [e1, e2]
      obtain ⟨i1, i2⟩ := ih (fun y => if y = p then some u else m y) cm
      refine ⟨fun x hx => ?_, fun i x v hi hv => ?_⟩
      · have h1 := i1 x fun h => hx (List.mem_cons_of_mem _ h)
        have hne : x ≠ p := fun h => hx (h ▸ List.mem_cons_self ..)
        exact ⟨h1.1.trans (if_neg hne), h1.2⟩
      · cases i with
        | zero =>
          simp at hi hv
          subst hi hv
          exact ⟨fun _ => (i1 p hp).1.trans (if_pos rfl), fun h => by rw [hl] at h; cases h⟩
        | succ i => exact i2 i x v (by simpa using hi) (by simpa using hv)
    · have hnl : ¬ kindOf p = some .local := fun h => by rw [hc] at h; cases h
      have e1 : bindL kindOf ((p :: ps).zip (u :: vs)) m = bindL kindOf (ps.zip vs) m := by
        show bindL kindOf ((p, u) :: ps.zip vs) m = _
        rw [bindL, if_neg hnl]
      have e2 : bindC kindOf ((p :: ps).zip (u :: vs)) cm = bindC kindOf (ps.zip vs) (fun y => if y = p then some u else cm y) := by
        show bindC kindOf ((p, u) :: ps.zip vs) cm = _
        rw [bindC, if_neg hnl]
      rw [e1, e2]
      obtain ⟨i1, i2⟩ := ih m (fun y => if y = p then some u else cm y)
      refine ⟨fun x hx => ?_, fun i x v hi hv => ?_⟩
      · have h1 := i1 x fun h => hx (List.mem_cons_of_mem _ h)
        have hne : x ≠ p := fun h => hx (h ▸ List.mem_cons_self ..)
        exact ⟨h1.1, h1.2.trans (if_neg hne)⟩
      · cases i with
        | zero =>
          simp at hi hv
          subst hi hv
          exact ⟨fun h => absurd h hnl, fun _ => (i1 p hp).2.trans (if_pos rfl)⟩
        | succ i => exact i2 i x v (by simpa using hi) (by simpa using hv)

noncomputable def callF (nl : Nat) (bf : SF) : CF := fun as σ => (bf (as.map some ++ List.replicate nl none) σ).bind fun q => match q.1 with
  | .ret v => some (v, q.2.2)
  | .next => some (.con .none, q.2.2)
  | _ => none

section
variable {prog : Program} {w : World} {g : Heap} {k : Nat} {nms : List (Str × NameKind)} {nm : List Str}

theorem Rm.deeper {A : Around} {env : Env} (h : Rm A (k + 1)) : Rm (A.deeper env) k := ⟨h.hd, by have := h.dp; show A.depth + 1 + k < _; (first | lia | omega), by have := h.un; show A.units + 3 + 8 * k + 50 < _; (first | lia | omega)⟩

theorem run_fn {A s φ σ} {a : Addr} {fd : FuncData} {body : List Stmt} {params locs : List Str} {vals : List Value} {args : Args} {as : List AV} {bf : SF} (fn : FnOK g a fd body nms params) (hb : BindsTo s fd args (params.zip vals))
    (hr : Reps g φ σ.length s.heap as vals) (hlen : as.length = params.length) (hnm : nm = params ++ locs) (hnd : nm.Nodup) (hs : SimSs prog w g k nms nm body bf) (hA : Rm A (k + 1)) (R : Rel g φ σ s.heap) {nl : Nat} {av σ'} (e : callF nl bf as σ = some (av, σ')) {Q E : Value → Shared → Prop}
    (h : ∀ v h' tk φ', Ext g φ σ s.heap φ' σ' h' → Rep g φ' σ'.length h' av v → Q v { s with heap := h', toks := tk }) :
    wpAny (model prog w) A (call (.ref a) args.pos args.kw) Q E s := by
  obtain ⟨⟨c, ρ', σ2⟩, e1, e⟩ := obind e
  obtain ⟨o, ho, hdata⟩ := fn.ob
  have kd : ∀ x ∈ params, fd.scope.names.lookup x = some .local ∨ fd.scope.names.lookup x = some .cell := fun x hx => by
    have := fn.par x hx
    unfold stKind at this
    rw [Bool.or_eq_true, beq_iff_eq, beq_iff_eq] at this
    rw [fn.names]; exact this
  have hpn : params.Nodup := by rw [hnm] at hnd; exact (List.nodup_append.mp hnd).1
  refine wpAny_call (codeAny_call_function (by have := hA.dp; (first | lia | omega)) (R.base _ _ ho) hdata fn.coro fn.gen fn.body (fn.code.keeps R.base) (hb _ _ _ _ ?_))
  rw [fn.clo]
  refine wpAny_newFunctionEnv_cells fn.kind (fun x hx => ?_) fun env he s' x => ?_
  · have hx1 := (List.of_mem_zip hx).1
    rcases kd _ hx1 with h1 | h1
    · exact .inl h1
    · exact .inr ⟨h1, cellsFrom_has _ _ _ (.inl (mem_of_lookup h1))⟩
  · subst he
    obtain ⟨h₁, tk₁, rfl⟩ := x.toInCall.same
    refine ⟨(fn.lim.keeps R.base).keeps x.toInCall.keep, codeAny_func ?_⟩
    have X0 := Ext.grow (h' := h₁) R x.toInCall.keep
    generalize hL : s.heap.objs.size = L at x
    generalize henv : newEnv fd.scope L fd.globals (cellsFrom (L + 1) fd.scope.names []) (fd.qualname ++ ".<locals>.") (some a) fd.code none fd.builtins = env at x
    have eL : env.locals = L := by rw [← henv]; rfl
    have eC : env.cells = cellsFrom (L + 1) fd.scope.names [] := by rw [← henv]; rfl
    have eK : ∀ y, env.kindOf y = fd.scope.names.lookup y := fun y => by rw [← henv]; rfl
    have fresh : ∀ b, L ≤ b → s.heap.get? b = none := fun b hb => by
      cases e : s.heap.get? b with
      | none => rfl
      | some o' => exact absurd (Heap.lt_size e) (Nat.not_lt.mpr (by rw [hL]; exact hb))
    have hW : ∀ b, envW env b → s.heap.get? b = none := by
      rintro b (rfl | ⟨y, hy, hc⟩)
      · exact fresh _ (by rw [eL]; exact Nat.le_refl _)
      · exact fresh _ (Nat.le_of_lt (by have := x.above y b (mem_of_lookup hc); rwa [eL] at this))
    have eo : EnvOK nms env := by
      refine ⟨by rw [← henv]; exact fn.kind, by rw [← henv]; exact fn.names, by rw [← henv]; exact fn.glob, by rw [← henv]; exact fn.bi, fun y z c h1 h2 => ?_⟩
      exact name_of_addr x.apart (mem_of_lookup h1) (mem_of_lookup h2)
    obtain ⟨b1, b2⟩ := bind_lookup (kindOf := env.kindOf) params vals (fun _ => none) (fun _ => none) hpn fun y hy => by rw [eK]; exact kd y hy
    have F : FrameOK g nm env φ σ.length h₁ (as.map some ++ List.replicate nl none) := by
      refine ⟨⟨_, x.toInCall.ns, fun i av' hi => ?_⟩, fun y hy => ?_, base_none R (hW _ (.inl rfl))⟩
      · have hi' : as[i]? = some av' := by
          unfold Fm.get at hi
          rw [List.getD_eq_getElem?_getD] at hi
          by_cases hlt : i < as.length
          · rw [List.getElem?_append_left (by simpa using hlt), List.getElem?_map] at hi
            cases h9 : as[i]? with
            | none => rw [h9] at hi; cases hi
            | some q => rw [h9] at hi; exact congrArg some (by simpa using hi)
          · rw [List.getElem?_append_right (by simpa using Nat.not_lt.mp hlt), List.getElem?_replicate] at hi
            split at hi <;> cases hi
        obtain ⟨v, hv, hrep⟩ := hr.get hi'
        have hip : i < params.length := by rw [← hlen]; exact (List.getElem?_eq_some_iff.mp hi').1
        have hp : params[i]? = some params[i] := List.getElem?_eq_getElem hip
        refine ⟨params[i], by rw [hnm, List.getElem?_append_left hip]; exact hp, ?_⟩
        obtain ⟨c1, c2⟩ := b2 i _ v hp hv
        rcases kd params[i] (List.getElem_mem hip) with h1 | h1
        · exact .inl ⟨by rw [eK]; exact h1, v, c1 (by rw [eK]; exact h1), hrep.ext X0⟩
        · have hk : env.kindOf params[i] = some .cell := by rw [eK]; exact h1
          have := cellsFrom_has fd.scope.names (L + 1) [] (.inl (mem_of_lookup h1))
          rw [← eC] at this
          obtain ⟨cc, hcc⟩ := Option.isSome_iff_exists.mp this
          have h5 := x.cell _ _ hcc
          rw [c2 hk] at h5
          exact .inr ⟨hk, cc, v, hcc, h5, hrep.ext X0⟩
      · have hk := hy
        rw [eK] at hy
        have := cellsFrom_has fd.scope.names (L + 1) [] (.inl (mem_of_lookup hy))
        rw [← eC] at this
        obtain ⟨cc, hcc⟩ := Option.isSome_iff_exists.mp this
        exact ⟨cc, _, hcc, x.cell _ _ hcc, base_none R (hW _ (.inr ⟨y, hk, hcc⟩))⟩
    refine hs env (A.deeper env) { s with heap := h₁, toks := tk₁ } φ _ σ eo hA.deeper X0.rel F c ρ' σ2 e1 _ _ fun flc h₂ tk₂ φ₂ X₂ r₂ F₂ => ?_
    have wk : WD (envW env) s.heap := fun b o hw e => by rw [hW b hw] at e; (first | obtain ⟨rfl, rfl⟩ := Prod.mk.inj (Option.some.inj e) | cases e)
    have X : Ext g φ σ s.heap φ₂ σ2 h₂ := ((X0.toW wk).trans X₂).old fun b o hw e => by rw [hW b hw] at e; (first | obtain ⟨rfl, rfl⟩ := Prod.mk.inj (Option.some.inj e) | cases e)
    cases r₂ with
    | next => (first | obtain ⟨rfl, rfl⟩ := Prod.mk.inj (Option.some.inj e) | cases e); exact h _ h₂ tk₂ φ₂ X (.con _)
    | brk => (first | obtain ⟨rfl, rfl⟩ := Prod.mk.inj (Option.some.inj e) | cases e)
    | cont => (first | obtain ⟨rfl, rfl⟩ := Prod.mk.inj (Option.some.inj e) | cases e)
    | ret r => (first | obtain ⟨rfl, rfl⟩ := Prod.mk.inj (Option.some.inj e) | cases e); exact h _ h₂ tk₂ φ₂ X r

/-- called with its parameters, one by one -/
theorem prim_fn {a : Addr} {fd : FuncData} {body : List Stmt} {params : List Str} {locs : List Str} {bf : SF} (fn : FnOK g a fd body nms params) (hs : SimSs prog w g k nms nm body bf) (hnm : nm = params ++ locs) (hnd : nm.Nodup) (nl : Nat)
    (hb : ∀ vs : List Value, vs.length = params.length → bindArgs fd ⟨vs, []⟩ = pure (params.zip vs)) : PrimC prog w g (k + 1) (.ref a) (fun as σ => if as.length = params.length then callF nl bf as σ else none) := by
  intro A s φ σ as vs hA R hr av σ' e Q E h
  dsimp only at e
  split at e
  · rename_i hl
    exact run_fn (args := ⟨vs, []⟩) fn (.of_eq (hb vs (hr.length.trans hl))) hr hl hnm hnd hs hA R e h
  · (first | obtain ⟨rfl, rfl⟩ := Prod.mk.inj (Option.some.inj e) | cases e)

theorem sim_callF {x : Str} {a : Addr} {p pos : Pos} {args : List Expr} {fs : EFs} {op : CF} {fd : FuncData} (hk : nms.lookup x = some .globalImplicit) (hd : (x == ("__debug__" : Str)) = false) (hg : GlobIs g x (.ref a))
    (hf : ∃ o, g.get? a = some o ∧ o.data = .func fd) (h1 : SimEs prog w g k nms nm args fs) (pl : Plain args) (hp : PrimC prog w g k (.ref a) op) : SimE prog w g k nms nm (.Call (.Name x p) args [] pos) (callE op fs) := by
  intro env A s φ ρ σ eo hA R F av σ' e Q E h
  obtain ⟨⟨as, σ1⟩, e1, e⟩ := obind e
  obtain ⟨o, ho, hdata⟩ := hf
  refine wpAny_Call_Name_kw (sim_glob (prog := prog) (w := w) (k := k) (nms := nms) (nm := nm) (pos := p) (.ref a) hk hd hg env A s φ ρ σ eo hA R F _ _ rfl _ _ fun v h₁ tk₁ φ₁ X₁ r₁ => ?_)
  (first | obtain ⟨_, rfl⟩ := r₁.intI | obtain ⟨_, rfl⟩ := r₁.strI | obtain rfl := r₁.nilI | obtain ⟨rfl, _⟩ := r₁.refI | cases r₁)
  refine Calls.callWith_function (o := o) (fd := fd) ?_
  obtain ⟨e0, es, rfl, hst⟩ := pl.first
  have main := h1 env A { s with heap := h₁, toks := tk₁ } φ₁ ρ σ pos eo hA X₁.rel (F.ext X₁) as σ1 e1 (fun vs s₂ => (s₂.heap.get? a = some o ∧ o.data = .func fd) ∧ wpAny (model prog w) A (call (.ref a) vs) Q E s₂) E
    fun vs h₂ tk₂ φ₂ X₂ r₂ => ⟨⟨X₂.rel.base _ _ ho, hdata⟩, hp A _ φ₂ σ1 as vs hA X₂.rel r₂ av σ' e _ _ fun v h₃ tk₃ φ₃ X₃ r₃ => h v h₃ tk₃ φ₃ ((X₁.trans X₂).trans X₃) r₃⟩
  rw [hst] at main ⊢
  exact evalArgs_plain main
end
end Mine
end
section
set_option maxRecDepth 100000
namespace Mine

/-- an expression that is never reached -/
noncomputable def neverE : EF := fun _ _ => none
noncomputable abbrev KF := List AV → AV → St → Option (AV × St)
noncomputable def callKE (op : KF) (fs : EFs) (fk : EF) : EF := fun ρ σ => (fs ρ σ).bind fun p => (fk ρ p.2).bind fun q => op p.1 q.1 q.2
noncomputable abbrev MF := AV → List AV → St → Option (AV × St)
section
variable {prog : Program} {w : World} {g : Heap} {k : Nat} {nms : List (Str × NameKind)} {nm : List Str}

theorem sim_never {e : Expr} : SimE prog w g k nms nm e neverE := by
  intro env A s φ ρ σ eo hA R F av σ' e
  (first | obtain ⟨rfl, rfl⟩ := Prod.mk.inj (Option.some.inj e) | cases e)

variable (prog w g k) in
noncomputable def PrimK (f : Value) (kn : Str) (op : KF) : Prop :=
  ∀ A s φ σ as vs b vb, Rm A k → Rel g φ σ s.heap → Reps g φ σ.length s.heap as vs → Rep g φ σ.length s.heap b vb → Runs prog w g A s φ σ (call f vs [(kn, vb)]) (op as b σ)
theorem sim_callK {x kn : Str} {a : Addr} {p pos kp : Pos} {args : List Expr} {ke : Expr} {fs : EFs} {fk : EF} {op : KF} {fd : FuncData} (hk : nms.lookup x = some .globalImplicit) (hd : (x == ("__debug__" : Str)) = false) (hg : GlobIs g x (.ref a))
    (hf : ∃ o, g.get? a = some o ∧ o.data = .func fd) (h1 : SimEs prog w g k nms nm args fs) (pl : Plain args) (h2 : SimE prog w g k nms nm ke fk) (hp : PrimK prog w g k (.ref a) kn op) :
    SimE prog w g k nms nm (.Call (.Name x p) args [⟨some kn, ke, kp⟩] pos) (callKE op fs fk) := by
  intro env A s φ ρ σ eo hA R F av σ' e Q E h
  obtain ⟨⟨as, σ1⟩, e1, e⟩ := obind e
  obtain ⟨⟨b, σ2⟩, e2, e⟩ := obind e
  obtain ⟨o, ho, hdata⟩ := hf
  refine wpAny_Call_Name_kw (sim_glob (prog := prog) (w := w) (k := k) (nms := nms) (nm := nm) (pos := p) (.ref a) hk hd hg env A s φ ρ σ eo hA R F _ _ rfl _ _ fun v h₁ tk₁ φ₁ X₁ r₁ => ?_)
  (first | obtain ⟨_, rfl⟩ := r₁.intI | obtain ⟨_, rfl⟩ := r₁.strI | obtain rfl := r₁.nilI | obtain ⟨rfl, _⟩ := r₁.refI | cases r₁)
  refine PySem.callWith_function_kw (o := o) (fd := fd) ?_
  obtain ⟨e0, es, rfl, hst⟩ := pl.first
  have main := h1 env A { s with heap := h₁, toks := tk₁ } φ₁ ρ σ pos eo hA X₁.rel (F.ext X₁) as σ1 e1
    (fun vs s₂ => wpAny (model prog w) A (evalAll ((backToKw pos (keywordEach [⟨some kn, ke, kp⟩] env)).map (·.2))) (fun ks s₃ => (s₃.heap.get? a = some o ∧ o.data = .func fd) ∧ wpAny (model prog w) A (call (.ref a) vs ([kn].zip ks)) Q E s₃) E s₂) E
    fun vs h₂ tk₂ φ₂ X₂ r₂ => ?_
  · rw [hst] at main ⊢
    exact PySem.evalArgs_kw rfl main
  · refine PySem.wpAny_evalAll_cons (wpAny_bind (h2 env A { s with heap := h₂, toks := tk₂ } φ₂ ρ σ1 eo hA X₂.rel ((F.ext X₁).ext X₂) b σ2 e2 _ _ fun vb h₃ tk₃ φ₃ X₃ r₃ => ?_))
    refine wpAny_bind (wpAny_standAt (wpAny_pure (PySem.wpAny_evalAll_nil ⟨⟨X₃.rel.base _ _ ho, hdata⟩, ?_⟩)))
    exact hp A _ φ₃ σ2 as vs b vb hA X₃.rel (r₂.ext X₃) r₃ av σ' e _ _ fun v h₄ tk₄ φ₄ X₄ r₄ => h v h₄ tk₄ φ₄ (((X₁.trans X₂).trans X₃).trans X₄) r₄

/-! methods of built-in values -/
variable (prog w g k) in
structure PrimM (name : Str) (id : String) (ok : AV → St → Bool) (op : MF) : Prop where
  get : ∀ A s φ σ a va (pl : Sem Bool) (Q : Value × List Value → Shared → Prop) (E : Value → Shared → Prop), Rel g φ σ s.heap → Rep g φ σ.length s.heap a va → ok a σ = true → Q (.builtin id, [va]) s → wpAny (model prog w) A (getMethod va name pl) Q E s
  call : ∀ A s φ σ a as va vs, Rm A k → Rel g φ σ s.heap → Rep g φ σ.length s.heap a va → Reps g φ σ.length s.heap as vs → Runs prog w g A s φ σ (call (.builtin id) (va :: vs)) (op a as σ)
noncomputable def methO (ok : AV → St → Bool) (op : MF) (fo : EF) (fs : EFs) : EF := fun ρ σ => (fo ρ σ).bind fun p => if ok p.1 p.2 = true then (fs ρ p.2).bind fun q => op p.1 q.1 q.2 else none
theorem sim_meth {o : Expr} {name : Str} {id : String} {apos pos : Pos} {args : List Expr} {fo : EF} {fs : EFs} {ok : AV → St → Bool} {op : MF} (h1 : SimE prog w g k nms nm o fo) (h2 : SimEs prog w g k nms nm args fs) (pl : Plain args) (hp : PrimM prog w g k name id ok op)
    (he : ∀ env, ∃ pl : Sem Bool, eval (.Call (.Attribute o name apos) args [] pos) env = (do
      let ov ← eval o env
      standAt apos.atName
      let (f, first) ← holding [ov] (getMethod ov name pl)
      callWith pos f first (backTo pos (starEach args env)) [])) :
    SimE prog w g k nms nm (.Call (.Attribute o name apos) args [] pos) (methO ok op fo fs) := by
  intro env A s φ ρ σ eo hA R F av σ' e Q E h
  obtain ⟨⟨a, σ1⟩, e1, e⟩ := obind e
  dsimp only at e
  split at e
  · rename_i hok
    obtain ⟨⟨as, σ2⟩, e2, e⟩ := obind e
    obtain ⟨pl', he⟩ := he env
    refine MethodCall_ (h1 env A s φ ρ σ eo hA R F a σ1 e1 _ _ fun va h₁ tk₁ φ₁ X₁ r₁ => hp.get A _ φ₁ σ1 a va pl' _ _ X₁.rel r₁ hok ?_) he
    refine Calls.callWith_builtin (pl.plain env pos) ?_
    obtain ⟨e0, es, rfl, hst⟩ := pl.first
    have main := h2 env A { s with heap := h₁, toks := tk₁ } φ₁ ρ σ1 pos eo hA X₁.rel (F.ext X₁) as σ2 e2 (fun vs s₂ => wpAny (model prog w) A (call (.builtin id) (va :: vs)) Q E s₂) E
      fun vs h₂ tk₂ φ₂ X₂ r₂ => hp.call A _ φ₂ σ2 a as va vs hA X₂.rel (r₁.ext X₂) r₂ av σ' e _ _ fun v h₃ tk₃ φ₃ X₃ r₃ => h v h₃ tk₃ φ₃ ((X₁.trans X₂).trans X₃) r₃
    rw [hst] at main ⊢
    exact evalArgs_plain main
  · (first | obtain ⟨rfl, rfl⟩ := Prod.mk.inj (Option.some.inj e) | cases e)
theorem meth_eq {o : Expr} {name : Str} {apos pos : Pos} {args : List Expr} (hb : ∀ env, attributeBase o name env (eval o env) = eval o env)
    (hf : ∀ env, methodCallForm (args.length + ([] : List Keyword).length) (backTo pos (starEach args env)) (backToKw pos (keywordEach [] env)) = true) (hl : (apos.endLine == pos.line) = true) (env : Env) : ∃ pl : Sem Bool, eval (.Call (.Attribute o name apos) args [] pos) env = (do
      let ov ← eval o env
      standAt apos.atName
      let (f, first) ← holding [ov] (getMethod ov name pl)
      callWith pos f first (backTo pos (starEach args env)) []) := by
  refine ⟨(do return (← importBound o env).getD true), ?_⟩
  rw [arm_eval_Call, hb]
  have hpos : methodCallPos true o env apos pos = pure pos := by unfold methodCallPos; simp [hl]
  unfold methodCall
  rw [hf, hpos]
  simp only [pure_bind]
  rfl
end
end Mine
end
section
set_option maxRecDepth 100000
namespace Mine

theorem upd_list {h : Heap} {a : Addr} {vs : List Value} {n : Nat} (f : Array Value → Array Value) (e : h.get? a = some (lstObj vs n)) : ∃ n', (h.update a (Obj.mapSeq f)).get? a = some { cls := .type "list", data := .seq (f vs.toArray) n' } :=
  ⟨_, Heap.get?_update_self _ e rfl⟩

noncomputable def i64 (x : Int) : Bool := decide (x.natAbs < 18446744073709551616)
theorem i64_lt {x : Int} (h : i64 x = true) : x.natAbs < 2 ^ 64 := of_decide_eq_true h
theorem i64_bits {x : Int} (h : i64 x = true) : Builtin.Int.intBits x ≤ 64 := by
  unfold Builtin.Int.intBits
  split
  · (first | lia | omega)
  · rename_i h0
    have hx : x.natAbs ≠ 0 := by
      intro h1
      have : x = 0 := Int.natAbs_eq_zero.mp h1
      simp [this] at h0
    have := (Nat.log2_lt hx).mpr (i64_lt h)
    (first | lia | omega)

section
variable {prog : Program} {w : World} {g : Heap} {k : Nat}

/-- an object of ours that is a list -/
theorem Rel.lst {φ σ h id xs} (R : Rel g φ σ h) (e : σ[id]? = some (AO.list xs)) : ∃ items n, h.get? (φ id) = some (lstObj items n) ∧ Reps g φ σ.length h xs items ∧ id < σ.length := by
  obtain ⟨ob, hob, hr⟩ := R.objs id _ e
  cases hr with
  | list hr => exact ⟨_, _, hob, hr, (List.getElem?_eq_some_iff.mp e).1⟩
theorem szl2 {n : Nat} (h : n ≤ 65536) : n ≤ sizeLine + 1 := Nat.le_succ_of_le (szl h)

noncomputable def addO : BF := fun a b σ => match a, b with
  | .int x, .int y => some (.int (x + y), σ)
  | .str x, .str y => if x.length + y.length ≤ 65536 then some (.str (x ++ y), σ) else none
  | .ref i, .ref j => match σ[i]?, σ[j]? with
    | some (.list xs), some (.list ys) => newL (xs ++ ys) σ
    | _, _ => none
  | .tup (x :: xs), .tup (y :: ys) => if (x :: xs).length + (y :: ys).length ≤ 65536 then some (.tup (x :: xs ++ y :: ys), σ) else none
  | _, _ => none
theorem prim_add : PrimB prog w g k (binaryOp .Add) addO := by
  intro A s φ σ a b va vb hA R ra rb av σ' e Q E h
  unfold addO at e
  split at e
  · (first | obtain ⟨rfl, rfl⟩ := Prod.mk.inj (Option.some.inj e) | cases e)
    (first | obtain ⟨_, rfl⟩ := ra.intI | obtain ⟨_, rfl⟩ := ra.strI | obtain rfl := ra.nilI | obtain ⟨rfl, _⟩ := ra.refI | cases ra); (first | obtain ⟨_, rfl⟩ := rb.intI | obtain ⟨_, rfl⟩ := rb.strI | obtain rfl := rb.nilI | obtain ⟨rfl, _⟩ := rb.refI | cases rb)
    exact PyProof.Rows.add_int (h _ s.heap _ φ (Ext.refl R) (.int _ _))
  · split at e
    · rename_i hsz
      (first | obtain ⟨rfl, rfl⟩ := Prod.mk.inj (Option.some.inj e) | cases e)
      (first | obtain ⟨_, rfl⟩ := ra.intI | obtain ⟨_, rfl⟩ := ra.strI | obtain rfl := ra.nilI | obtain ⟨rfl, _⟩ := ra.refI | cases ra); (first | obtain ⟨_, rfl⟩ := rb.intI | obtain ⟨_, rfl⟩ := rb.strI | obtain rfl := rb.nilI | obtain ⟨rfl, _⟩ := rb.refI | cases rb)
      exact SB.add (fun t' k' => h _ s.heap _ φ (Ext.refl R) (.str _ _)) (szl hsz)
    · (first | obtain ⟨rfl, rfl⟩ := Prod.mk.inj (Option.some.inj e) | cases e)
  · split at e
    · rename_i xs ys hx hy
      unfold newL at e
      split at e
      · rename_i hsz
        (first | obtain ⟨rfl, rfl⟩ := Prod.mk.inj (Option.some.inj e) | cases e)
        (first | obtain ⟨_, rfl⟩ := ra.intI | obtain ⟨_, rfl⟩ := ra.strI | obtain rfl := ra.nilI | obtain ⟨rfl, _⟩ := ra.refI | cases ra); (first | obtain ⟨_, rfl⟩ := rb.intI | obtain ⟨_, rfl⟩ := rb.strI | obtain rfl := rb.nilI | obtain ⟨rfl, _⟩ := rb.refI | cases rb)
        obtain ⟨v1, n1, h1, r1, _⟩ := R.lst hx
        obtain ⟨v2, n2, h2, r2, _⟩ := R.lst hy
        have rr := r1.append r2
        obtain ⟨X, r⟩ := Ext.newList R 0 rr
        refine PySem.P.add_list h1 h2 ?_ (by rw [List.length_append] at hsz; simp only [List.size_toArray, r1.length, r2.length]; exact szl hsz)
        have := h _ _ s.toks _ X r
        simpa using this
      · (first | obtain ⟨rfl, rfl⟩ := Prod.mk.inj (Option.some.inj e) | cases e)
    · (first | obtain ⟨rfl, rfl⟩ := Prod.mk.inj (Option.some.inj e) | cases e)
  · split at e
    · rename_i hsz
      (first | obtain ⟨rfl, rfl⟩ := Prod.mk.inj (Option.some.inj e) | cases e)
      obtain ⟨_, _, _, rfl, h1, r1⟩ := ra.tupI
      obtain ⟨_, _, _, rfl, h2, r2⟩ := rb.tupI
      rename_i v1 a1 n1 v2 a2 n2
      have rr := r1.append r2
      have X := Ext.push R (tupObj (v1 ++ v2) 0)
      have l1 := r1.length
      have l2 := r2.length
      refine PySem.P.add_tuple h1 h2 (by intro h0; simp at h0; subst h0; cases l1) (by intro h0; simp at h0; subst h0; cases l2) ?_ (by simp only [List.size_toArray, l1, l2]; exact szl hsz)
      have := h _ _ s.toks φ X (.tup (Heap.get?_push_size _ rfl) (rr.ext X))
      simpa using this
    · (first | obtain ⟨rfl, rfl⟩ := Prod.mk.inj (Option.some.inj e) | cases e)
  · (first | obtain ⟨rfl, rfl⟩ := Prod.mk.inj (Option.some.inj e) | cases e)

noncomputable def subO : BF := fun a b σ => match a, b with | .int x, .int y => some (.int (x - y), σ) | _, _ => none
theorem prim_sub : PrimB prog w g k (binaryOp .Sub) subO := by
  intro A s φ σ a b va vb hA R ra rb av σ' e Q E h
  unfold subO at e
  split at e
  · (first | obtain ⟨rfl, rfl⟩ := Prod.mk.inj (Option.some.inj e) | cases e)
    (first | obtain ⟨_, rfl⟩ := ra.intI | obtain ⟨_, rfl⟩ := ra.strI | obtain rfl := ra.nilI | obtain ⟨rfl, _⟩ := ra.refI | cases ra); (first | obtain ⟨_, rfl⟩ := rb.intI | obtain ⟨_, rfl⟩ := rb.strI | obtain rfl := rb.nilI | obtain ⟨rfl, _⟩ := rb.refI | cases rb)
    exact PyProof.Rows.sub_int (h _ s.heap _ φ (Ext.refl R) (.int _ _))
  · (first | obtain ⟨rfl, rfl⟩ := Prod.mk.inj (Option.some.inj e) | cases e)
noncomputable def modO : BF := fun a b σ => match a, b with | .int x, .int y => if y = 0 then none else some (.int (x.fmod y), σ) | _, _ => none
theorem prim_mod : PrimB prog w g k (binaryOp .Mod) modO := by
  intro A s φ σ a b va vb hA R ra rb av σ' e Q E h
  unfold modO at e
  split at e
  · split at e
    · (first | obtain ⟨rfl, rfl⟩ := Prod.mk.inj (Option.some.inj e) | cases e)
    · rename_i h0
      (first | obtain ⟨rfl, rfl⟩ := Prod.mk.inj (Option.some.inj e) | cases e)
      (first | obtain ⟨_, rfl⟩ := ra.intI | obtain ⟨_, rfl⟩ := ra.strI | obtain rfl := ra.nilI | obtain ⟨rfl, _⟩ := ra.refI | cases ra); (first | obtain ⟨_, rfl⟩ := rb.intI | obtain ⟨_, rfl⟩ := rb.strI | obtain rfl := rb.nilI | obtain ⟨rfl, _⟩ := rb.refI | cases rb)
      exact PyProof.Rows.mod_int h0 (h _ s.heap _ φ (Ext.refl R) (.int _ _))
  · (first | obtain ⟨rfl, rfl⟩ := Prod.mk.inj (Option.some.inj e) | cases e)
noncomputable def fdivO : BF := fun a b σ => match a, b with | .int x, .int y => if y = 0 ∨ 1073741824 ≤ y.natAbs then none else some (.int (x.fdiv y), σ) | _, _ => none
theorem prim_fdiv : PrimB prog w g k (binaryOp .FloorDiv) fdivO := by
  intro A s φ σ a b va vb hA R ra rb av σ' e Q E h
  unfold fdivO at e
  split at e
  · split at e
    · (first | obtain ⟨rfl, rfl⟩ := Prod.mk.inj (Option.some.inj e) | cases e)
    · rename_i h0
      (first | obtain ⟨rfl, rfl⟩ := Prod.mk.inj (Option.some.inj e) | cases e)
      (first | obtain ⟨_, rfl⟩ := ra.intI | obtain ⟨_, rfl⟩ := ra.strI | obtain rfl := ra.nilI | obtain ⟨rfl, _⟩ := ra.refI | cases ra); (first | obtain ⟨_, rfl⟩ := rb.intI | obtain ⟨_, rfl⟩ := rb.strI | obtain rfl := rb.nilI | obtain ⟨rfl, _⟩ := rb.refI | cases rb)
      exact PyProof.Rows.floordiv_int (fun h1 => h0 (.inl h1)) (h _ s.heap _ φ (Ext.refl R) (.int _ _)) (.inl (PyProof.noPylong_small (by (first | lia | omega))))
  · (first | obtain ⟨rfl, rfl⟩ := Prod.mk.inj (Option.some.inj e) | cases e)
noncomputable def powO : BF := fun a b σ => match a, b with | .int x, .int y => if 0 ≤ y ∧ y ≤ 1000 ∧ i64 x = true then some (.int (x ^ y.toNat), σ) else none | _, _ => none
theorem prim_pow : PrimB prog w g k (binaryOp .Pow) powO := by
  intro A s φ σ a b va vb hA R ra rb av σ' e Q E h
  unfold powO at e
  split at e
  · rename_i x y
    split at e
    · rename_i h0
      (first | obtain ⟨rfl, rfl⟩ := Prod.mk.inj (Option.some.inj e) | cases e)
      (first | obtain ⟨_, rfl⟩ := ra.intI | obtain ⟨_, rfl⟩ := ra.strI | obtain rfl := ra.nilI | obtain ⟨rfl, _⟩ := ra.refI | cases ra); (first | obtain ⟨_, rfl⟩ := rb.intI | obtain ⟨_, rfl⟩ := rb.strI | obtain rfl := rb.nilI | obtain ⟨rfl, _⟩ := rb.refI | cases rb)
      refine PyProof.Rows.pow_int h0.1 ?_ (h _ s.heap _ φ (Ext.refl R) (.int _ _))
      have h1 := i64_bits h0.2.2
      have h2 : (Builtin.Int.intBits x : Int) ≤ 64 := by exact_mod_cast h1
      have h3 : (Builtin.Int.intBits x : Int) * y ≤ 64 * 1000 := Int.mul_le_mul h2 h0.2.1 h0.1 (by decide)
      (first | lia | omega)
    · (first | obtain ⟨rfl, rfl⟩ := Prod.mk.inj (Option.some.inj e) | cases e)
  · (first | obtain ⟨rfl, rfl⟩ := Prod.mk.inj (Option.some.inj e) | cases e)
noncomputable def shlO : BF := fun a b σ => match a, b with | .int x, .int y => if 0 ≤ y ∧ y ≤ 1000 ∧ i64 x = true then some (.int (x * 2 ^ y.toNat), σ) else none | _, _ => none
theorem prim_shl : PrimB prog w g k (binaryOp .LShift) shlO := by
  intro A s φ σ a b va vb hA R ra rb av σ' e Q E h
  unfold shlO at e
  split at e
  · split at e
    · rename_i h0
      (first | obtain ⟨rfl, rfl⟩ := Prod.mk.inj (Option.some.inj e) | cases e)
      (first | obtain ⟨_, rfl⟩ := ra.intI | obtain ⟨_, rfl⟩ := ra.strI | obtain rfl := ra.nilI | obtain ⟨rfl, _⟩ := ra.refI | cases ra); (first | obtain ⟨_, rfl⟩ := rb.intI | obtain ⟨_, rfl⟩ := rb.strI | obtain rfl := rb.nilI | obtain ⟨rfl, _⟩ := rb.refI | cases rb)
      exact PyProof.Rows.lshift_int_small h0.1 (by (first | lia | omega)) (i64_lt h0.2.2) (h _ s.heap _ φ (Ext.refl R) (.int _ _))
    · (first | obtain ⟨rfl, rfl⟩ := Prod.mk.inj (Option.some.inj e) | cases e)
  · (first | obtain ⟨rfl, rfl⟩ := Prod.mk.inj (Option.some.inj e) | cases e)
noncomputable def andO : BF := fun a b σ => match a, b with | .int x, .int y => some (.int (Builtin.bitAnd x y), σ) | _, _ => none
theorem prim_and : PrimB prog w g k (binaryOp .BitAnd) andO := by
  intro A s φ σ a b va vb hA R ra rb av σ' e Q E h
  unfold andO at e
  split at e
  · (first | obtain ⟨rfl, rfl⟩ := Prod.mk.inj (Option.some.inj e) | cases e)
    (first | obtain ⟨_, rfl⟩ := ra.intI | obtain ⟨_, rfl⟩ := ra.strI | obtain rfl := ra.nilI | obtain ⟨rfl, _⟩ := ra.refI | cases ra); (first | obtain ⟨_, rfl⟩ := rb.intI | obtain ⟨_, rfl⟩ := rb.strI | obtain rfl := rb.nilI | obtain ⟨rfl, _⟩ := rb.refI | cases rb)
    exact PyProof.Rows.and_int (h _ s.heap _ φ (Ext.refl R) (.int _ _))
  · (first | obtain ⟨rfl, rfl⟩ := Prod.mk.inj (Option.some.inj e) | cases e)
noncomputable def mulO : BF := fun a b σ => match a, b with
  | .int x, .int y => if i64 x = true then some (.int (x * y), σ) else none
  | .str x, .int y => if 0 ≤ y ∧ y ≤ 1000 ∧ x.length ≤ 60 then some (.str (Txt.mul x y), σ) else none
  | .ref i, .int y => match σ[i]? with
    | some (.list [x]) => if 0 ≤ y ∧ y ≤ 1000 then some (.ref σ.length, σ ++ [.list (List.replicate y.toNat x)]) else none
    | _ => none
  | _, _ => none
theorem mul_ok {x : Str} {y : Int} (h : 0 ≤ y ∧ y ≤ 1000 ∧ x.length ≤ 60) : MulOk x y := by
  obtain ⟨h0, h1, h2⟩ := h
  refine ⟨by simp; (first | lia | omega), fun h3 _ => ?_, fun h3 _ => ?_⟩
  · have h6 : (x.length : Int) ≤ 60 := by exact_mod_cast h2
    have h5 : (60 : Int) ≤ (2 ^ 63 - 1) / y := Int.le_ediv_of_mul_le (by (first | lia | omega)) (by (first | lia | omega))
    (first | lia | omega)
  · have h4 : x.length * y.toNat ≤ 60 * 1000 := Nat.mul_le_mul h2 (by (first | lia | omega))
    unfold Builtin.Str.tooLong
    have h7 : ¬ (x.length * y.toNat > sizeLine) := by have := szl (n := 60000) (by decide); (first | lia | omega)
    simpa using h7
theorem reps_replicate {φ n h a v} (r : Rep g φ n h a v) (m : Nat) : Reps g φ n h (List.replicate m a) (List.replicate m v) := by
  induction m with
  | zero => exact .nil
  | succ m ih => exact .cons r ih
theorem foldl_rep1 (v : Value) : ∀ (m : Nat) (acc : Array Value), List.foldl (fun x1 x2 => x1 ++ x2) acc (List.replicate m #[v]) = (acc.toList ++ List.replicate m v).toArray
  | 0, acc => by simp
  | m + 1, acc => by
    rw [List.replicate_succ, List.foldl_cons, foldl_rep1 v m]
    simp [List.replicate_succ]
theorem prim_mul : PrimB prog w g k (binaryOp .Mult) mulO := by
  intro A s φ σ a b va vb hA R ra rb av σ' e Q E h
  unfold mulO at e
  split at e
  · split at e
    · rename_i h0
      (first | obtain ⟨rfl, rfl⟩ := Prod.mk.inj (Option.some.inj e) | cases e)
      (first | obtain ⟨_, rfl⟩ := ra.intI | obtain ⟨_, rfl⟩ := ra.strI | obtain rfl := ra.nilI | obtain ⟨rfl, _⟩ := ra.refI | cases ra); (first | obtain ⟨_, rfl⟩ := rb.intI | obtain ⟨_, rfl⟩ := rb.strI | obtain rfl := rb.nilI | obtain ⟨rfl, _⟩ := rb.refI | cases rb)
      exact PyProof.Rows.mul_int (h _ s.heap _ φ (Ext.refl R) (.int _ _)) (.of_left (i64_bits h0))
    · (first | obtain ⟨rfl, rfl⟩ := Prod.mk.inj (Option.some.inj e) | cases e)
  · split at e
    · rename_i h0
      (first | obtain ⟨rfl, rfl⟩ := Prod.mk.inj (Option.some.inj e) | cases e)
      (first | obtain ⟨_, rfl⟩ := ra.intI | obtain ⟨_, rfl⟩ := ra.strI | obtain rfl := ra.nilI | obtain ⟨rfl, _⟩ := ra.refI | cases ra); (first | obtain ⟨_, rfl⟩ := rb.intI | obtain ⟨_, rfl⟩ := rb.strI | obtain rfl := rb.nilI | obtain ⟨rfl, _⟩ := rb.refI | cases rb)
      exact SB.mul (mul_ok h0) fun t' k' => h _ s.heap _ φ (Ext.refl R) (.str _ _)
    · (first | obtain ⟨rfl, rfl⟩ := Prod.mk.inj (Option.some.inj e) | cases e)
  · rename_i i y
    split at e
    · rename_i x hx
      split at e
      · rename_i h0
        (first | obtain ⟨rfl, rfl⟩ := Prod.mk.inj (Option.some.inj e) | cases e)
        (first | obtain ⟨_, rfl⟩ := ra.intI | obtain ⟨_, rfl⟩ := ra.strI | obtain rfl := ra.nilI | obtain ⟨rfl, _⟩ := ra.refI | cases ra); (first | obtain ⟨_, rfl⟩ := rb.intI | obtain ⟨_, rfl⟩ := rb.strI | obtain rfl := rb.nilI | obtain ⟨rfl, _⟩ := rb.refI | cases rb)
        obtain ⟨v1, n1, h1, r1, _⟩ := R.lst hx
        replace r1 := r1.oneI
        obtain ⟨_, rfl, r1⟩ := r1
        rename_i v r1
        have X := Ext.newList R 0 (reps_replicate r1 y.toNat)
        refine wpAny_binaryOp_repeat_ref (T := "list") (U := "int") (by decide) ⟨_, h1, rfl⟩ (fun s' => typeIs_int s' _ _) noFill_list_mul PySem.F.fills_int_mul PySem.F.slot_int_rmul repeat_list PySem.F.slot_int_index.lookup
          (call_meets PySem.F.slot_int_rmul (typeIs_int s _ _) PySem.F.entry_int_rmul (PySem.F.args_int_rmul_2 _ _) (int___rmul___int_list _ _ _ _ _)
            ⟨h1, rfl, ⟨_, h1, rfl⟩, call_meets PySem.F.slot_list_mul ⟨_, h1, rfl⟩ PySem.F.entry_list_mul (PySem.F.args_list_mul_2 _ _)
              (AutoListH.list___mul___list_int_3 _ _ _ _ _ (by simp [Builtin.List.listFitsIndex]; (first | lia | omega)) (by simp; (first | lia | omega)) (by simp [Builtin.List.listTooLong, sizeLine]; (first | lia | omega)))
              ⟨h1, ?_⟩⟩)
        have := h _ _ s.toks _ X.1 X.2
        show Q _ _
        rw [foldl_rep1]
        exact this
      · (first | obtain ⟨rfl, rfl⟩ := Prod.mk.inj (Option.some.inj e) | cases e)
    · (first | obtain ⟨rfl, rfl⟩ := Prod.mk.inj (Option.some.inj e) | cases e)
  · (first | obtain ⟨rfl, rfl⟩ := Prod.mk.inj (Option.some.inj e) | cases e)
end
end Mine
end
section
open PySem.AutoSeq1 (wpAny_loadPart')
open PySem.SeqAt
set_option maxRecDepth 100000
namespace Mine

/-! the order of tuples of ints -/
noncomputable def ltL : List Int → List Int → Bool
  | [], [] => false
  | [], _ :: _ => true
  | _ :: _, [] => false
  | x :: xs, y :: ys => if x = y then ltL xs ys else decide (x < y)

theorem tuple_lt_ints (l b : Addr) (items items2 : List Value) (n n2 : Nat) (ns ns2 : List Int) (h1 : Paired (fun v i => ∃ t, v = Value.int i t) items ns) (h2 : Paired (fun v i => ∃ t, v = Value.int i t) items2 ns2) :
    Meets (Builtin.«tuple.__lt__» ⟨[.ref l, .ref b], []⟩)
      (fun _ R s => s.heap.get? l = some (tupObj items n) ∧ s.heap.get? b = some (tupObj items2 n2) ∧ R (.ok (.ret (.bool (ltL ns ns2)))) s) :=
  .of_wp fun prog w A R s h => by
    obtain ⟨hp, g, d, tk, os⟩ := s; obtain ⟨hl, hb, h⟩ := h
    have f2 := AutoSeq1.sub_tuple_tuple
    wp_walk using wpAny_loadPart' hl, wpAny_loadPart' hb, wpAny_forIn_list _ (fun rest b s' => b.1 = none ∧ s' = ⟨hp, g, d, tk, os⟩ ∧ ∃ vs vs2 ms ms2, rest = vs.zip vs2 ∧ Paired (fun v i => ∃ t, v = Value.int i t) vs ms ∧ Paired (fun v i => ∃ t, v = Value.int i t) vs2 ms2 ∧
      items.length + vs2.length = items2.length + vs.length ∧ R (.ok (.ret (.bool (ltL ms ms2)))) ⟨hp, g, d, tk, os⟩) _
    case turn =>
      rintro ⟨y, x⟩ rest b s' ⟨hb', rfl, vs, vs2, ms, ms2, hz, p1, p2, hlen, hR⟩
      cases p1 with
      | nil => cases hz
      | cons q1 p1 =>
        cases p2 with
        | nil => cases hz
        | cons q2 p2 =>
          injection hz with hyx hrest
          injection hyx with e1 e2
          subst e1 e2
          obtain ⟨t1, rfl⟩ := q1
          obtain ⟨t2, rfl⟩ := q2
          rename_i m1 vs' ms' m2 vs2' ms2'
          refine wpAny_bind (MeetsSeq.EqGives.int m1 m2 t1 t2 prog w _ _ _ _ ?_)
          by_cases hm : m1 = m2
          · have e : (m1 == m2) = true := by simpa using hm
            rw [e]
            have e2 : ltL (m1 :: ms') (m2 :: ms2') = ltL ms' ms2' := by rw [ltL, if_pos hm]
            rw [e2] at hR
            wp_walk
            exact ⟨rfl, rfl, vs', vs2', ms', ms2', hrest, p1, p2, by simp only [List.length_cons] at hlen; (first | lia | omega), hR⟩
          · have e : (m1 == m2) = false := by simpa using hm
            rw [e]
            have e2 : ltL (m1 :: ms') (m2 :: ms2') = decide (m1 < m2) := by rw [ltL, if_neg hm]
            rw [e2] at hR
            show wpAny (model prog w) _ (do
              rule "tuple.compare.by-the-first-pair-that-differs"
              let r1 ← richCompare CmpOp.Lt (Value.int m1 t1) (Value.int m2 t2)
              let r2 ← ret r1
              pure (ForInStep.done (some r2, ()))) _ _ _
            refine wpAny_bind (wpAny_rule (wpAny_bind ?_))
            refine PyProof.Rows.lt_int ?_
            exact wpAny_bind (wpAny_pure (wpAny_pure (wpAny_pure ⟨_, rfl, hR⟩)))
    case fin =>
      rintro ⟨b1, b2⟩ s' ⟨hb', rfl, vs, vs2, ms, ms2, hz, p1, p2, hlen, hR⟩
      simp only at hb'
      subst hb'
      wp_walk
      refine ⟨_, rfl, ?_⟩
      unfold Builtin.Tuple.tupleCompareSizes
      simp only [List.size_toArray]
      cases p1 with
      | nil =>
        cases p2 with
        | nil => simpa [ltL, show ¬ items.length < items2.length by simp only [List.length_nil] at hlen; (first | lia | omega)] using hR
        | cons q p => simpa [ltL, show items.length < items2.length by simp only [List.length_nil, List.length_cons] at hlen; (first | lia | omega)] using hR
      | cons q p =>
        cases p2 with
        | nil => simpa [ltL, show ¬ items.length < items2.length by simp only [List.length_nil, List.length_cons] at hlen; (first | lia | omega)] using hR
        | cons q2 p2 => cases hz
    case h =>
      exact ⟨rfl, rfl, items, items2, ns, ns2, by simp, h1, h2, by (first | lia | omega), h⟩

/-! equality of what the heap holds -/
noncomputable def eqLs (f : AV → AV → Option Bool) : List AV → List AV → Option Bool
  | [], [] => some true
  | x :: xs, y :: ys => match f x y, eqLs f xs ys with
    | some b, some c => some (b && c)
    | _, _ => none
  | _, _ => none
noncomputable def eqV : Nat → St → AV → AV → Option Bool
  | 0, _, a, b => match a, b with
    | .int x, .int y => some (x == y)
    | .str x, .str y => some (x.cps.toList == y.cps.toList)
    | _, _ => none
  | d + 1, σ, a, b => match a, b with
    | .int x, .int y => some (x == y)
    | .str x, .str y => some (x.cps.toList == y.cps.toList)
    | .ref i, .ref j => if i = j then some true else match σ[i]?, σ[j]? with
      | some (.list xs), some (.list ys) => if xs.length = ys.length then eqLs (eqV d σ) xs ys else some false
      | _, _ => none
    | _, _ => none
noncomputable def eqL (d : Nat) (σ : St) (xs ys : List AV) : Option Bool := eqLs (eqV d σ) xs ys

section
variable {prog : Program} {w : World} {g : Heap} {k : Nat}
theorem eqLs_at {f : AV → AV → Option Bool} : ∀ {xs ys : List AV} {r}, eqLs f xs ys = some r → ∃ e : Nat → Bool, (List.range xs.length).all e = r ∧ ∀ (j : Nat) x y, xs[j]? = some x → ys[j]? = some y → f x y = some (e j)
  | [], [], r, h => by
    cases h
    exact ⟨fun _ => true, rfl, fun j x y hx => by simp at hx⟩
  | [], _ :: _, r, h => by cases h
  | _ :: _, [], r, h => by cases h
  | x :: xs, y :: ys, r, h => by
    rw [eqLs] at h
    split at h
    · rename_i b c hb hc
      cases h
      obtain ⟨e, he, hj⟩ := eqLs_at hc
      refine ⟨fun j => match j with | 0 => b | j + 1 => e j, ?_, fun j u v hu hv => ?_⟩
      · rw [List.length_cons, List.range_succ_eq_map, List.all_cons, List.all_map, ← he]
        rfl
      · cases j with
        | zero => simp at hu hv; subst hu hv; exact hb
        | succ j => exact hj j u v (by simpa using hu) (by simpa using hv)
    · cases h
theorem eqL_at {d σ} {xs ys : List AV} {r} (h : eqL d σ xs ys = some r) : ∃ e : Nat → Bool, (List.range xs.length).all e = r ∧ ∀ (j : Nat) x y, xs[j]? = some x → ys[j]? = some y → eqV d σ x y = some (e j) := eqLs_at h

theorem lists_at {A s φ σ xs ys d r} {v1 v2 : List Value} (r1 : Reps g φ σ.length s.heap xs v1) (r2 : Reps g φ σ.length s.heap ys v2) (hlen : xs.length = ys.length) (e : eqL d σ xs ys = some r)
    (ih : ∀ {a b va vb r}, eqV d σ a b = some r → Rep g φ σ.length s.heap a va → Rep g φ σ.length s.heap b vb → EqAt A s va vb r) :
    ∃ f : Nat → Bool, (List.range v1.toArray.size).all f = r ∧ ∀ j (h1 : j < v1.toArray.size) (h2 : j < v2.toArray.size), EqAt A s v1.toArray[j] v2.toArray[j] (f j) := by
  obtain ⟨f, hf, hj⟩ := eqL_at e
  refine ⟨f, by rw [List.size_toArray, r1.length]; exact hf, fun j h1 h2 => ?_⟩
  rw [List.size_toArray, r1.length] at h1
  rw [List.size_toArray, r2.length] at h2
  have hx := List.getElem?_eq_getElem h1
  have hy := List.getElem?_eq_getElem h2
  obtain ⟨u1, hu1, q1⟩ := r1.get hx
  obtain ⟨u2, hu2, q2⟩ := r2.get hy
  have e1 : v1.toArray[j] = u1 := by
    have := (List.getElem?_eq_some_iff.mp hu1).2
    simpa using this
  have e2 : v2.toArray[j] = u2 := by
    have := (List.getElem?_eq_some_iff.mp hu2).2
    simpa using this
  rw [e1, e2]
  exact ih (hj j _ _ hx hy) q1 q2

theorem eqV_at {φ σ} : ∀ {d : Nat} {A : Around} {s : Shared} {a b va vb r}, Rel g φ σ s.heap → A.units + d < cLine → eqV d σ a b = some r → Rep g φ σ.length s.heap a va → Rep g φ σ.length s.heap b vb → EqAt A s va vb r
  | 0, A, s, a, b, va, vb, r, R, hu, e, ra, rb => by
    unfold eqV at e
    split at e
    · (first | obtain ⟨rfl, rfl⟩ := Prod.mk.inj (Option.some.inj e) | cases e)
      (first | obtain ⟨_, rfl⟩ := ra.intI | obtain ⟨_, rfl⟩ := ra.strI | obtain rfl := ra.nilI | obtain ⟨rfl, _⟩ := ra.refI | cases ra); (first | obtain ⟨_, rfl⟩ := rb.intI | obtain ⟨_, rfl⟩ := rb.strI | obtain rfl := rb.nilI | obtain ⟨rfl, _⟩ := rb.refI | cases rb)
      exact (MeetsSeq.EqGives.int _ _ _ _).at A s
    · (first | obtain ⟨rfl, rfl⟩ := Prod.mk.inj (Option.some.inj e) | cases e)
      (first | obtain ⟨_, rfl⟩ := ra.intI | obtain ⟨_, rfl⟩ := ra.strI | obtain rfl := ra.nilI | obtain ⟨rfl, _⟩ := ra.refI | cases ra); (first | obtain ⟨_, rfl⟩ := rb.intI | obtain ⟨_, rfl⟩ := rb.strI | obtain rfl := rb.nilI | obtain ⟨rfl, _⟩ := rb.refI | cases rb)
      exact (SeqRoads2.EqGives.str _ _ _ _).at A s
    · (first | obtain ⟨rfl, rfl⟩ := Prod.mk.inj (Option.some.inj e) | cases e)
  | d1 + 1, A, s, a, b, va, vb, r, R, hu, e, ra, rb => by
    unfold eqV at e
    split at e
    · (first | obtain ⟨rfl, rfl⟩ := Prod.mk.inj (Option.some.inj e) | cases e)
      (first | obtain ⟨_, rfl⟩ := ra.intI | obtain ⟨_, rfl⟩ := ra.strI | obtain rfl := ra.nilI | obtain ⟨rfl, _⟩ := ra.refI | cases ra); (first | obtain ⟨_, rfl⟩ := rb.intI | obtain ⟨_, rfl⟩ := rb.strI | obtain rfl := rb.nilI | obtain ⟨rfl, _⟩ := rb.refI | cases rb)
      exact (MeetsSeq.EqGives.int _ _ _ _).at A s
    · (first | obtain ⟨rfl, rfl⟩ := Prod.mk.inj (Option.some.inj e) | cases e)
      (first | obtain ⟨_, rfl⟩ := ra.intI | obtain ⟨_, rfl⟩ := ra.strI | obtain rfl := ra.nilI | obtain ⟨rfl, _⟩ := ra.refI | cases ra); (first | obtain ⟨_, rfl⟩ := rb.intI | obtain ⟨_, rfl⟩ := rb.strI | obtain rfl := rb.nilI | obtain ⟨rfl, _⟩ := rb.refI | cases rb)
      exact (SeqRoads2.EqGives.str _ _ _ _).at A s
    · rename_i i j
      split at e
      · rename_i hij
        (first | obtain ⟨rfl, rfl⟩ := Prod.mk.inj (Option.some.inj e) | cases e)
        subst hij
        (first | obtain ⟨_, rfl⟩ := ra.intI | obtain ⟨_, rfl⟩ := ra.strI | obtain rfl := ra.nilI | obtain ⟨rfl, _⟩ := ra.refI | cases ra); (first | obtain ⟨_, rfl⟩ := rb.intI | obtain ⟨_, rfl⟩ := rb.strI | obtain rfl := rb.nilI | obtain ⟨rfl, _⟩ := rb.refI | cases rb)
        exact EqAt.same _
      · rename_i hij
        split at e
        · rename_i xs ys hx hy
          obtain ⟨rfl, hi⟩ := ra.refI
          obtain ⟨rfl, hj⟩ := rb.refI
          obtain ⟨v1, n1, h1, r1, _⟩ := R.lst hx
          obtain ⟨v2, n2, h2, r2, _⟩ := R.lst hy
          have hne : φ i ≠ φ j := fun h => hij (R.inj i j hi hj h)
          have l1 : s.heap.IsList (φ i) v1.toArray := ⟨_, h1, rfl, _, rfl⟩
          have l2 : s.heap.IsList (φ j) v2.toArray := ⟨_, h2, rfl, _, rfl⟩
          split at e
          · rename_i hlen
            obtain ⟨f, hf, hj⟩ := lists_at (A := A.in1) (d := d1) r1 r2 hlen e fun {a b va vb r} h q1 q2 => eqV_at (d := d1) (A := A.in1) R (by show A.units + 1 + d1 < _; (first | lia | omega)) h q1 q2
            have := RcAt.lists (A := A) l1 l2 (by rw [List.size_toArray, List.size_toArray, r1.length, r2.length, hlen]) (by (first | lia | omega)) hj
            rw [hf] at this
            exact EqAt.of_refs hne this
          · rename_i hlen
            (first | obtain ⟨rfl, rfl⟩ := Prod.mk.inj (Option.some.inj e) | cases e)
            refine EqAt.of_refs hne (RcAt.lists_lengths (A := A) l1 l2 ?_ (by (first | lia | omega)))
            simp only [List.size_toArray, r1.length, r2.length]
            simpa using hlen
        · (first | obtain ⟨rfl, rfl⟩ := Prod.mk.inj (Option.some.inj e) | cases e)
    · (first | obtain ⟨rfl, rfl⟩ := Prod.mk.inj (Option.some.inj e) | cases e)
end
end Mine
end
section
open PySem.SeqAt
set_option maxRecDepth 100000
namespace Mine

noncomputable def intsOf : List AV → Option (List Int)
  | [] => some []
  | .int x :: r => (intsOf r).map (x :: ·)
  | _ => none
noncomputable def strsOf : List AV → Option (List Str)
  | [] => some []
  | .str x :: r => (strsOf r).map (x :: ·)
  | _ => none
theorem ints_paired {g φ n h} : ∀ {xs : List AV} {vs : List Value} {ns}, intsOf xs = some ns → Reps g φ n h xs vs → Paired (fun v i => ∃ t, v = Value.int i t) vs ns
  | [], _, _, e, r => by (first | obtain ⟨_, rfl⟩ := r.intI | obtain ⟨_, rfl⟩ := r.strI | obtain rfl := r.nilI | obtain ⟨rfl, _⟩ := r.refI | cases r); (first | obtain ⟨rfl, rfl⟩ := Prod.mk.inj (Option.some.inj e) | cases e); exact .nil
  | x :: xs, _, ns, e, r => by
    obtain ⟨_, _, rfl, r1, r2⟩ := r.consI
    cases x with
    | int i =>
      rw [intsOf] at e
      cases e2 : intsOf xs with
      | none => rw [e2] at e; (first | obtain ⟨rfl, rfl⟩ := Prod.mk.inj (Option.some.inj e) | cases e)
      | some ms =>
        rw [e2] at e
        (first | obtain ⟨rfl, rfl⟩ := Prod.mk.inj (Option.some.inj e) | cases e)
        (first | obtain ⟨_, rfl⟩ := r1.intI | obtain ⟨_, rfl⟩ := r1.strI | obtain rfl := r1.nilI | obtain ⟨rfl, _⟩ := r1.refI | cases r1)
        exact .cons ⟨_, rfl⟩ (ints_paired e2 r2)
    | _ => (first | obtain ⟨rfl, rfl⟩ := Prod.mk.inj (Option.some.inj e) | cases e)
theorem strs_paired {g φ n h} : ∀ {xs : List AV} {vs : List Value} {ns}, strsOf xs = some ns → Reps g φ n h xs vs → Paired (fun v i => ∃ t, v = Value.str i t) vs ns
  | [], _, _, e, r => by (first | obtain ⟨_, rfl⟩ := r.intI | obtain ⟨_, rfl⟩ := r.strI | obtain rfl := r.nilI | obtain ⟨rfl, _⟩ := r.refI | cases r); (first | obtain ⟨rfl, rfl⟩ := Prod.mk.inj (Option.some.inj e) | cases e); exact .nil
  | x :: xs, _, ns, e, r => by
    obtain ⟨_, _, rfl, r1, r2⟩ := r.consI
    cases x with
    | str i =>
      rw [strsOf] at e
      cases e2 : strsOf xs with
      | none => rw [e2] at e; (first | obtain ⟨rfl, rfl⟩ := Prod.mk.inj (Option.some.inj e) | cases e)
      | some ms =>
        rw [e2] at e
        (first | obtain ⟨rfl, rfl⟩ := Prod.mk.inj (Option.some.inj e) | cases e)
        (first | obtain ⟨_, rfl⟩ := r1.intI | obtain ⟨_, rfl⟩ := r1.strI | obtain rfl := r1.nilI | obtain ⟨rfl, _⟩ := r1.refI | cases r1)
        exact .cons ⟨_, rfl⟩ (strs_paired e2 r2)
    | _ => (first | obtain ⟨rfl, rfl⟩ := Prod.mk.inj (Option.some.inj e) | cases e)
noncomputable def isIntV (x : Int) : Value → Bool
  | .int m _ => m == x
  | _ => false
noncomputable def isStrV (x : Str) : Value → Bool
  | .str m _ => m.cps.toList == x.cps.toList
  | _ => false
theorem any_int {x : Int} : ∀ {vs : List Value} {ns}, Paired (fun v i => ∃ t, v = Value.int i t) vs ns → vs.any (isIntV x) = ns.any (· == x)
  | _, _, .nil => rfl
  | _, _, .cons ⟨t, e⟩ p => by subst e; rw [List.any_cons, List.any_cons, any_int p]; rfl
theorem any_str {x : Str} : ∀ {vs : List Value} {ns}, Paired (fun v i => ∃ t, v = Value.str i t) vs ns → vs.any (isStrV x) = ns.any (fun m => m.cps.toList == x.cps.toList)
  | _, _, .nil => rfl
  | _, _, .cons ⟨t, e⟩ p => by subst e; rw [List.any_cons, List.any_cons, any_str p]; rfl
theorem mem_int {x : Int} {t : Tok} : ∀ {vs : List Value} {ns}, Paired (fun v i => ∃ t, v = Value.int i t) vs ns → ∀ y ∈ vs, MeetsSeq.EqGives y (.int x t) (isIntV x y)
  | _, _, .nil, y, h => by cases h
  | _, _, .cons ⟨u, e⟩ p, y, h => by
    rcases List.mem_cons.mp h with rfl | h
    · subst e; exact MeetsSeq.EqGives.int _ _ _ _
    · exact mem_int p y h
theorem mem_str {x : Str} {t : Tok} : ∀ {vs : List Value} {ns}, Paired (fun v i => ∃ t, v = Value.str i t) vs ns → ∀ y ∈ vs, MeetsSeq.EqGives y (.str x t) (isStrV x y)
  | _, _, .nil, y, h => by cases h
  | _, _, .cons ⟨u, e⟩ p, y, h => by
    rcases List.mem_cons.mp h with rfl | h
    · subst e; exact SeqRoads2.EqGives.str _ _ _ _
    · exact mem_str p y h
theorem bytes_inj : ∀ {b c : List Nat}, (∀ x ∈ b, x < 256) → (∀ x ∈ c, x < 256) → ((bytesArr b).toList == (bytesArr c).toList) = (b == c) := by
  intro b c hb hc
  unfold bytesArr
  show (b.map Nat.toUInt8 == c.map Nat.toUInt8) = _
  induction b generalizing c with
  | nil => cases c <;> rfl
  | cons x b ih =>
    cases c with
    | nil => rfl
    | cons y c =>
      rw [List.map_cons, List.map_cons, List.cons_beq_cons, List.cons_beq_cons, ih (fun z hz => hb z (List.mem_cons_of_mem _ hz)) fun z hz => hc z (List.mem_cons_of_mem _ hz)]
      congr 1
      have hx := hb x (List.mem_cons_self ..)
      have hy := hc y (List.mem_cons_self ..)
      rw [Bool.eq_iff_iff, beq_iff_eq, beq_iff_eq]
      constructor
      · intro h
        have := congrArg UInt8.toNat h
        simp only [Nat.toUInt8_eq, UInt8.toNat_ofNat'] at this
        omega
      · intro h; rw [h]

section
variable {prog : Program} {w : World} {g : Heap} {k : Nat}

noncomputable def ltO : BF := fun a b σ => match a, b with
  | .int x, .int y => some (.bool (decide (x < y)), σ)
  | .tup xs, .tup ys => match intsOf xs, intsOf ys with
    | some ns, some ms => some (.bool (ltL ns ms), σ)
    | _, _ => none
  | _, _ => none
theorem prim_lt : PrimB prog w g k (compareOp .Lt) ltO := by
  intro A s φ σ a b va vb hA R ra rb av σ' e Q E h
  unfold ltO at e
  split at e
  · (first | obtain ⟨rfl, rfl⟩ := Prod.mk.inj (Option.some.inj e) | cases e)
    (first | obtain ⟨_, rfl⟩ := ra.intI | obtain ⟨_, rfl⟩ := ra.strI | obtain rfl := ra.nilI | obtain ⟨rfl, _⟩ := ra.refI | cases ra); (first | obtain ⟨_, rfl⟩ := rb.intI | obtain ⟨_, rfl⟩ := rb.strI | obtain rfl := rb.nilI | obtain ⟨rfl, _⟩ := rb.refI | cases rb)
    exact PyProof.Rows.lt_int (h _ s.heap s.toks φ (Ext.refl R) (.bool _))
  · split at e
    · rename_i ns ms h1 h2
      (first | obtain ⟨rfl, rfl⟩ := Prod.mk.inj (Option.some.inj e) | cases e)
      obtain ⟨_, _, _, rfl, ha1, r1⟩ := ra.tupI
      obtain ⟨_, _, _, rfl, ha2, r2⟩ := rb.tupI
      have hq := h (.bool (ltL ns ms)) s.heap s.toks φ (Ext.refl R) (.bool _)
      have hu : A.units < cLine := by have := hA.un; (first | lia | omega)
      exact richCompare_meets_room (op := .Lt) ⟨_, ha1, rfl⟩ ⟨_, ha2, rfl⟩ PySem.F.slot_tuple_lt PySem.F.entry_tuple_lt (PySem.F.args_tuple_lt_2 _ _) (tuple_lt_ints _ _ _ _ _ _ ns ms (ints_paired h1 r1) (ints_paired h2 r2))
        ⟨ha1, ha2, show Value.bool (ltL ns ms) ≠ Value.notImplemented ∧ Q (.bool (ltL ns ms)) s from ⟨(fun x => nomatch x), hq⟩⟩ hu
    · (first | obtain ⟨rfl, rfl⟩ := Prod.mk.inj (Option.some.inj e) | cases e)
  · (first | obtain ⟨rfl, rfl⟩ := Prod.mk.inj (Option.some.inj e) | cases e)
noncomputable def gtO : BF := fun a b σ => match a, b with | .int x, .int y => some (.bool (decide (y < x)), σ) | _, _ => none
theorem prim_gt : PrimB prog w g k (compareOp .Gt) gtO := by
  intro A s φ σ a b va vb hA R ra rb av σ' e Q E h
  unfold gtO at e
  split at e
  · (first | obtain ⟨rfl, rfl⟩ := Prod.mk.inj (Option.some.inj e) | cases e)
    (first | obtain ⟨_, rfl⟩ := ra.intI | obtain ⟨_, rfl⟩ := ra.strI | obtain rfl := ra.nilI | obtain ⟨rfl, _⟩ := ra.refI | cases ra); (first | obtain ⟨_, rfl⟩ := rb.intI | obtain ⟨_, rfl⟩ := rb.strI | obtain rfl := rb.nilI | obtain ⟨rfl, _⟩ := rb.refI | cases rb)
    exact PyProof.Rows.gt_int (h _ s.heap s.toks φ (Ext.refl R) (.bool _))
  · (first | obtain ⟨rfl, rfl⟩ := Prod.mk.inj (Option.some.inj e) | cases e)
noncomputable def sameL (σ : St) (i j : Nat) : Option Bool := match σ[i]?, σ[j]? with
  | some (.list xs), some (.list ys) => if xs.length = ys.length then eqL 2 σ xs ys else some false
  | _, _ => none
noncomputable def eqO : BF := fun a b σ => match a, b with
  | .int x, .int y => some (.bool (x == y), σ)
  | .bytes x, .bytes y => some (.bool (x == y), σ)
  | .ref i, .ref j => (sameL σ i j).map fun r => (.bool r, σ)
  | _, _ => none
theorem same_at {A s φ σ i j r} (hA : Rm A k) (R : Rel g φ σ s.heap) (e : sameL σ i j = some r) : RcAt A s (.ref (φ i)) (.ref (φ j)) r ∧ RcNeAt A s (.ref (φ i)) (.ref (φ j)) (!r) := by
  unfold sameL at e
  split at e
  · rename_i xs ys hx hy
    obtain ⟨v1, n1, h1, r1, _⟩ := R.lst hx
    obtain ⟨v2, n2, h2, r2, _⟩ := R.lst hy
    have l1 : s.heap.IsList (φ i) v1.toArray := ⟨_, h1, rfl, _, rfl⟩
    have l2 : s.heap.IsList (φ j) v2.toArray := ⟨_, h2, rfl, _, rfl⟩
    have hu : A.units < cLine := by have := hA.un; (first | lia | omega)
    split at e
    · rename_i hlen
      obtain ⟨f, hf, hj⟩ := lists_at (A := A.in1) r1 r2 hlen e fun {a b va vb r} h q1 q2 => eqV_at (A := A.in1) (d := 2) R (by show A.units + 1 + 2 < _; have := hA.un; (first | lia | omega)) h q1 q2
      have hz : v1.toArray.size = v2.toArray.size := by rw [List.size_toArray, List.size_toArray, r1.length, r2.length, hlen]
      have q1 := RcAt.lists (A := A) l1 l2 hz hu hj
      have q2 := RcNeAt.lists (A := A) l1 l2 hz hu hj
      rw [hf] at q1 q2
      exact ⟨q1, q2⟩
    · rename_i hlen
      (first | obtain ⟨rfl, rfl⟩ := Prod.mk.inj (Option.some.inj e) | cases e)
      have hz : (v1.toArray.size != v2.toArray.size) = true := by
        simp only [List.size_toArray, r1.length, r2.length]
        simpa using hlen
      exact ⟨RcAt.lists_lengths (A := A) l1 l2 hz hu, RcNeAt.lists_lengths (A := A) l1 l2 hz hu⟩
  · (first | obtain ⟨rfl, rfl⟩ := Prod.mk.inj (Option.some.inj e) | cases e)
theorem omap {α β : Type} {x : Option α} {f : α → β} {b : β} (h : x.map f = some b) : ∃ a, x = some a ∧ f a = b := by
  cases x with
  | none => cases h
  | some a => exact ⟨a, rfl, Option.some.inj h⟩
theorem prim_eq : PrimB prog w g k (compareOp .Eq) eqO := by
  intro A s φ σ a b va vb hA R ra rb av σ' e Q E h
  unfold eqO at e
  split at e
  · (first | obtain ⟨rfl, rfl⟩ := Prod.mk.inj (Option.some.inj e) | cases e)
    (first | obtain ⟨_, rfl⟩ := ra.intI | obtain ⟨_, rfl⟩ := ra.strI | obtain rfl := ra.nilI | obtain ⟨rfl, _⟩ := ra.refI | cases ra); (first | obtain ⟨_, rfl⟩ := rb.intI | obtain ⟨_, rfl⟩ := rb.strI | obtain rfl := rb.nilI | obtain ⟨rfl, _⟩ := rb.refI | cases rb)
    exact PyProof.Rows.eq_int (h _ s.heap s.toks φ (Ext.refl R) (.bool _))
  · (first | obtain ⟨rfl, rfl⟩ := Prod.mk.inj (Option.some.inj e) | cases e)
    obtain ⟨_, rfl, hb⟩ := ra.bytesI
    obtain ⟨_, rfl, hc⟩ := rb.bytesI
    refine PySem.W.eq_bytes ?_
    rw [bytes_inj hb hc]
    exact h _ s.heap s.toks φ (Ext.refl R) (.bool _)
  · obtain ⟨r, e1, e2⟩ := omap e
    cases e2
    (first | obtain ⟨_, rfl⟩ := ra.intI | obtain ⟨_, rfl⟩ := ra.strI | obtain rfl := ra.nilI | obtain ⟨rfl, _⟩ := ra.refI | cases ra); (first | obtain ⟨_, rfl⟩ := rb.intI | obtain ⟨_, rfl⟩ := rb.strI | obtain rfl := rb.nilI | obtain ⟨rfl, _⟩ := rb.refI | cases rb)
    exact (same_at hA R e1).1 prog w E Q (h _ s.heap s.toks φ (Ext.refl R) (.bool _))
  · (first | obtain ⟨rfl, rfl⟩ := Prod.mk.inj (Option.some.inj e) | cases e)
noncomputable def neO : BF := fun a b σ => match a, b with
  | .int x, .int y => some (.bool (x != y), σ)
  | .bytes x, .bytes y => some (.bool (x != y), σ)
  | .ref i, .ref j => (sameL σ i j).map fun r => (.bool (!r), σ)
  | _, _ => none
theorem prim_ne : PrimB prog w g k (compareOp .NotEq) neO := by
  intro A s φ σ a b va vb hA R ra rb av σ' e Q E h
  unfold neO at e
  split at e
  · (first | obtain ⟨rfl, rfl⟩ := Prod.mk.inj (Option.some.inj e) | cases e)
    (first | obtain ⟨_, rfl⟩ := ra.intI | obtain ⟨_, rfl⟩ := ra.strI | obtain rfl := ra.nilI | obtain ⟨rfl, _⟩ := ra.refI | cases ra); (first | obtain ⟨_, rfl⟩ := rb.intI | obtain ⟨_, rfl⟩ := rb.strI | obtain rfl := rb.nilI | obtain ⟨rfl, _⟩ := rb.refI | cases rb)
    exact PyProof.Rows.ne_int (h _ s.heap s.toks φ (Ext.refl R) (.bool _))
  · (first | obtain ⟨rfl, rfl⟩ := Prod.mk.inj (Option.some.inj e) | cases e)
    obtain ⟨_, rfl, hb⟩ := ra.bytesI
    obtain ⟨_, rfl, hc⟩ := rb.bytesI
    refine PySem.W.ne_bytes ?_
    unfold bne
    rw [bytes_inj hb hc]
    exact h _ s.heap s.toks φ (Ext.refl R) (.bool _)
  · obtain ⟨r, e1, e2⟩ := omap e
    cases e2
    (first | obtain ⟨_, rfl⟩ := ra.intI | obtain ⟨_, rfl⟩ := ra.strI | obtain rfl := ra.nilI | obtain ⟨rfl, _⟩ := ra.refI | cases ra); (first | obtain ⟨_, rfl⟩ := rb.intI | obtain ⟨_, rfl⟩ := rb.strI | obtain rfl := rb.nilI | obtain ⟨rfl, _⟩ := rb.refI | cases rb)
    exact (same_at hA R e1).2 prog w E Q (h _ s.heap s.toks φ (Ext.refl R) (.bool _))
  · (first | obtain ⟨rfl, rfl⟩ := Prod.mk.inj (Option.some.inj e) | cases e)
noncomputable def inO : BF := fun a b σ => match b with
  | .ref i => match σ[i]? with
    | some (.list ys) => match a with
      | .int x => (intsOf ys).map fun ns => (.bool (ns.any (· == x)), σ)
      | .str x => (strsOf ys).map fun ns => (.bool (ns.any fun m => m.cps.toList == x.cps.toList), σ)
      | _ => none
    | _ => none
  | _ => none
theorem prim_in : PrimB prog w g k (compareOp .In) inO := by
  intro A s φ σ a b va vb hA R ra rb av σ' e Q E h
  unfold inO at e
  split at e
  · split at e
    · rename_i ys hy
      obtain ⟨rfl, hid⟩ := rb.refI
      obtain ⟨v1, n1, h1, r1, _⟩ := R.lst hy
      split at e
      · obtain ⟨ns, e1, e2⟩ := omap e
        cases e2
        (first | obtain ⟨_, rfl⟩ := ra.intI | obtain ⟨_, rfl⟩ := ra.strI | obtain rfl := ra.nilI | obtain ⟨rfl, _⟩ := ra.refI | cases ra)
        have p := ints_paired e1 r1
        refine SeqRoads2.in_list (isIntV _) (fun y hy => mem_int p y (by simpa using hy)) h1 ?_
        have := h _ s.heap s.toks φ (Ext.refl R) (.bool _)
        rw [List.any_toArray, any_int p]
        exact this
      · obtain ⟨ns, e1, e2⟩ := omap e
        cases e2
        (first | obtain ⟨_, rfl⟩ := ra.intI | obtain ⟨_, rfl⟩ := ra.strI | obtain rfl := ra.nilI | obtain ⟨rfl, _⟩ := ra.refI | cases ra)
        have p := strs_paired e1 r1
        refine SeqRoads2.in_list (isStrV _) (fun y hy => mem_str p y (by simpa using hy)) h1 ?_
        have := h _ s.heap s.toks φ (Ext.refl R) (.bool _)
        rw [List.any_toArray, any_str p]
        exact this
      · (first | obtain ⟨rfl, rfl⟩ := Prod.mk.inj (Option.some.inj e) | cases e)
    · (first | obtain ⟨rfl, rfl⟩ := Prod.mk.inj (Option.some.inj e) | cases e)
  · (first | obtain ⟨rfl, rfl⟩ := Prod.mk.inj (Option.some.inj e) | cases e)
/-- is None -/
noncomputable def isO : BF := fun a b σ => match b with
  | .con .none => match a with
    | .con .none => some (.bool true, σ)
    | .con (.ref _) => some (.bool false, σ)
    | .int _ => some (.bool false, σ)
    | _ => none
  | _ => none
theorem prim_is : PrimB prog w g k (compareOp .Is) isO := by
  intro A s φ σ a b va vb hA R ra rb av σ' e Q E h
  unfold isO at e
  split at e
  · (first | obtain ⟨_, rfl⟩ := rb.intI | obtain ⟨_, rfl⟩ := rb.strI | obtain rfl := rb.nilI | obtain ⟨rfl, _⟩ := rb.refI | cases rb)
    split at e
    · (first | obtain ⟨rfl, rfl⟩ := Prod.mk.inj (Option.some.inj e) | cases e); (first | obtain ⟨_, rfl⟩ := ra.intI | obtain ⟨_, rfl⟩ := ra.strI | obtain rfl := ra.nilI | obtain ⟨rfl, _⟩ := ra.refI | cases ra); exact is_none_none (h _ s.heap s.toks φ (Ext.refl R) (.bool _))
    · (first | obtain ⟨rfl, rfl⟩ := Prod.mk.inj (Option.some.inj e) | cases e); (first | obtain ⟨_, rfl⟩ := ra.intI | obtain ⟨_, rfl⟩ := ra.strI | obtain rfl := ra.nilI | obtain ⟨rfl, _⟩ := ra.refI | cases ra); exact is_ref_none (h _ s.heap s.toks φ (Ext.refl R) (.bool _))
    · (first | obtain ⟨rfl, rfl⟩ := Prod.mk.inj (Option.some.inj e) | cases e); (first | obtain ⟨_, rfl⟩ := ra.intI | obtain ⟨_, rfl⟩ := ra.strI | obtain rfl := ra.nilI | obtain ⟨rfl, _⟩ := ra.refI | cases ra); exact is_int_none (h _ s.heap s.toks φ (Ext.refl R) (.bool _))
    · (first | obtain ⟨rfl, rfl⟩ := Prod.mk.inj (Option.some.inj e) | cases e)
  · (first | obtain ⟨rfl, rfl⟩ := Prod.mk.inj (Option.some.inj e) | cases e)

/-! in place -/
theorem seq_list_iadd : seqSlot? (.type "list") (dunderI "add") = pure (some (.builtin "list.__iadd__")) := PySem.seqSlot_of PySem.F.slot_list_iadd.lookup (by decide +kernel)
theorem inplace_list {A s} {l b : Addr} {E : Value → Shared → Prop} {Q : Value → Shared → Prop} (ha : s.TypeIs (.ref l) "list") (hb : s.TypeIs (.ref b) "list") (hc : wpAny (model prog w) A (call (.builtin "list.__iadd__") [.ref l, .ref b]) Q E s) :
    wpAny (model prog w) A (inplaceOp .Add (.ref l) (.ref b)) Q E s := by
  unfold inplaceOp
  refine wpAny_holding ?_
  have hfi : fillsInplaceSlot (.type "list") "add" (Operator.Add == .Add) = pure false := by
    unfold fillsInplaceSlot
    show (typeLookup (.type "list") (dunderI "add") >>= fun fi => pure (fi.isSome && !isSeqSlot fi)) = pure false
    rw [PySem.F.slot_list_iadd.lookup]
    show (pure (true && !isSeqSlot (some (.builtin "list.__iadd__"))) : Sem Bool) = pure false
    rw [show isSeqSlot (some (.builtin "list.__iadd__")) = true by decide +kernel]
    rfl
  refine wpAny_bind (wpAny_typeOf ha (wpAny_bind (wpAny_of_eq hfi ?_)))
  show wpAny _ A (if false = true then _ else _) Q E s
  rw [if_neg Bool.false_ne_true]
  refine wpAny_bind (wpAny_binaryOp1_none (nm := "add") ha hb noFill_list_add ?_)
  refine wpAny_bind (wpAny_of_eq seq_list_iadd ?_)
  exact wpAny_bind (wpAny_rule hc)
/-- a list of ours turned -/
theorem Ext.updList {φ σ h id} (R : Rel g φ σ h) (hid : id < σ.length) {v1 v2 : List Value} {n1 : Nat} {ys : List AV} (h1 : h.get? (φ id) = some (lstObj v1 n1)) (f : Array Value → Array Value) (hf : f v1.toArray = v2.toArray) (r : Reps g φ σ.length h ys v2) :
    Ext g φ σ h φ (σ.set id (.list ys)) (h.update (φ id) (Obj.mapSeq f)) := by
  obtain ⟨n', hob⟩ := upd_list f h1
  rw [hf] at hob
  exact Ext.upd (ao := .list ys) R hid (fun b o hb e => (Heap.SameBut.update ..).extBut b o hb e) hob
    (.list (r.keeps (fun _ _ => rfl) (Nat.le_refl _) fun a items k e => (Heap.SameBut.update (a := φ id) (f := Obj.mapSeq f) (h := h)).extBut a _ (fun ha => R.apart e (not_mut_tup _ _) _ hid ha.symm) e))
theorem rep_ref {φ : Nat → Addr} {n id : Nat} {h : Heap} (hid : id < n) : Rep g φ n h (.ref id) (.ref (φ id)) := .ref id hid
noncomputable def iaddO : BF := fun a b σ => match a, b with
  | .ref i, .ref j => if i = j then none else match σ[i]?, σ[j]? with
    | some (.list xs), some (.list ys) => if xs.length + ys.length ≤ 65536 then some (.ref i, σ.set i (.list (xs ++ ys))) else none
    | _, _ => none
  | _, _ => none
theorem prim_iadd : PrimB prog w g k (inplaceOp .Add) iaddO := by
  intro A s φ σ a b va vb hA R ra rb av σ' e Q E h
  unfold iaddO at e
  split at e
  · split at e
    · (first | obtain ⟨rfl, rfl⟩ := Prod.mk.inj (Option.some.inj e) | cases e)
    · rename_i hij
      split at e
      · rename_i xs ys hx hy
        split at e
        · rename_i hsz
          (first | obtain ⟨rfl, rfl⟩ := Prod.mk.inj (Option.some.inj e) | cases e)
          obtain ⟨rfl, hi⟩ := ra.refI
          obtain ⟨rfl, hj⟩ := rb.refI
          obtain ⟨v1, n1, h1, r1, _⟩ := R.lst hx
          obtain ⟨v2, n2, h2, r2, _⟩ := R.lst hy
          refine inplace_list ⟨_, h1, rfl⟩ ⟨_, h2, rfl⟩ (call_meets PySem.F.slot_list_iadd ⟨_, h1, rfl⟩ PySem.F.entry_list_iadd (PySem.F.args_list_iadd_2 _ _) (AutoSeq1.list___iadd___list_list_0 _ v1.toArray n1 _ v2.toArray n2 ?_ ?_ ?_) ⟨h1, h2, ?_⟩)
          · have : ¬ (v1.toArray.size + v2.toArray.size > sizeLine) := by simp only [List.size_toArray, r1.length, r2.length]; have := szl hsz; (first | lia | omega)
            unfold Builtin.List.listTooLong
            simp only [Bool.and_eq_true, not_and]
            intro _
            simpa using this
          · simp only [List.size_toArray, r1.length]; exact szl (by (first | lia | omega))
          · simp only [List.size_toArray, r1.length, r2.length]; exact szl2 hsz
          · have X := Ext.updList R hi h1 (fun x => x ++ v2.toArray) (by simp) (r1.append r2)
            exact h _ _ s.toks φ X (rep_ref (by rw [List.length_set]; exact hi))
        · (first | obtain ⟨rfl, rfl⟩ := Prod.mk.inj (Option.some.inj e) | cases e)
      · (first | obtain ⟨rfl, rfl⟩ := Prod.mk.inj (Option.some.inj e) | cases e)
  · (first | obtain ⟨rfl, rfl⟩ := Prod.mk.inj (Option.some.inj e) | cases e)
end
end Mine
end
section
set_option maxRecDepth 100000
namespace Mine
section
variable {prog : Program} {w : World} {g : Heap} {k : Nat} {nms : List (Str × NameKind)} {nm : List Str}

theorem prim_ixor : PrimB prog w g k (inplaceOp .BitXor) (fun a b σ => match a, b with | .int x, .int y => some (.int (Builtin.bitXor x y), σ) | _, _ => none) := by
  intro A s φ σ a b va vb hA R ra rb av σ' e Q E h
  dsimp only at e
  split at e
  · (first | obtain ⟨rfl, rfl⟩ := Prod.mk.inj (Option.some.inj e) | cases e)
    (first | obtain ⟨_, rfl⟩ := ra.intI | obtain ⟨_, rfl⟩ := ra.strI | obtain rfl := ra.nilI | obtain ⟨rfl, _⟩ := ra.refI | cases ra); (first | obtain ⟨_, rfl⟩ := rb.intI | obtain ⟨_, rfl⟩ := rb.strI | obtain rfl := rb.nilI | obtain ⟨rfl, _⟩ := rb.refI | cases rb)
    exact PyProof.Rows.ixor_int (h _ s.heap _ φ (Ext.refl R) (.int _ _))
  · (first | obtain ⟨rfl, rfl⟩ := Prod.mk.inj (Option.some.inj e) | cases e)

theorem tail_own {A s} {value slice : Expr} {o i : Value} {ops : List Value} {T id : String} {Q E : Value → Shared → Prop} (hl : typeLookup (.type T) "__getitem__" = pure (some (.builtin id))) (hT : s.TypeIs o T) (hg : wpAny (model prog w) A (getItem o i) Q E s)
    (hs : subscripted slice false o i = operate ops (getItem o i)) : wpAny (model prog w) A (subscriptTail value slice o i) Q E s := by
  unfold subscriptTail
  refine wpAny_bind ?_
  rw [getitemInPython_of_ne hT.not_modules]
  refine wpAny_bind (wpAny_specialOf hT hl ?_)
  have fin : wpAny (model prog w) A (subscripted slice false o i) (fun r s₃ => wpAny (model prog w) A (letTemporaryGo value o r >>= fun _ => pure r) Q E s₃) E s := by
    rw [hs]
    exact wpAny_operating (wpAny_mono hg (fun r s₃ h₃ => wpAny_bind (wpAny_letTemporaryGo (wpAny_pure h₃))) fun _ _ x => x)
  first
    | exact wpAny_pure (wpAny_bind fin)
    | exact wpAny_bind (wpAny_pure (wpAny_bind fin))
    | exact wpAny_bind fin

noncomputable def idxN (i : Int) (n : Nat) : Option Nat := if i < 0 then (if 0 ≤ i + n ∧ -65536 ≤ i then some (i + n).toNat else none) else if i < n ∧ i < 65536 then some i.toNat else none
theorem idxN_seq {i n k} (h : idxN i n = some k) : seqIndex? i n = some k ∧ -65536 ≤ i ∧ i < 65536 := by
  unfold idxN at h
  split at h
  · split at h
    · rename_i h1 h2
      cases h
      refine ⟨MeetsSeq.seqIndex_neg h1 h2.1, h2.2, by (first | lia | omega)⟩
    · cases h
  · split at h
    · rename_i h1 h2
      cases h
      have hn : ¬ i < 0 := h1
      have h0 : 0 ≤ i := by (first | lia | omega)
      exact ⟨by simp [seqIndex?, hn, h0, h2.1], by (first | lia | omega), h2.2⟩
    · cases h
noncomputable def getO : BF := fun a b σ => match b with
  | .int i => match a with
    | .ref id => match σ[id]? with
      | some (.list xs) => (idxN i xs.length).bind fun k => (xs[k]?).map fun v => (v, σ)
      | _ => none
    | .tup xs => (idxN i xs.length).bind fun k => (xs[k]?).map fun v => (v, σ)
    | .str x => (idxN i x.length).bind fun _ => some (.str (Txt.item x i), σ)
    | .bytes b => if 0 ≤ i ∧ i < b.length ∧ b.length ≤ 65536 then some (.int (b.getD i.toNat 0 : Nat), σ) else none
    | _ => none
  | _ => none
theorem prim_get {v i : Expr} (hs : ∀ o x, subscripted i false o x = operate [o, x] (getItem o x)) : PrimB prog w g k (subscriptTail v i) getO := by
  intro A s φ σ a b va vb hA R ra rb av σ' e Q E h
  unfold getO at e
  split at e
  · rename_i j
    obtain ⟨t, rfl⟩ := rb.intI
    split at e
    · split at e
      · rename_i xs hx
        obtain ⟨k1, e1, e⟩ := obind e
        obtain ⟨x, e2, e3⟩ := omap e
        cases e3
        obtain ⟨rfl, hid⟩ := ra.refI
        obtain ⟨v1, n1, h1, r1, _⟩ := R.lst hx
        obtain ⟨hq, hlo, hhi⟩ := idxN_seq e1
        obtain ⟨xv, hxv, rx⟩ := r1.get e2
        have hl : s.heap.IsList (φ _) v1.toArray := ⟨_, h1, rfl, _, rfl⟩
        refine tail_own PySem.F.slot_list_getitem.lookup ⟨_, h1, rfl⟩ ?_ (hs _ _)
        have fin := h xv s.heap s.toks φ (Ext.refl R) rx
        have hsz : v1.toArray.size = xs.length := by rw [List.size_toArray, r1.length]
        unfold idxN at e1
        split at e1
        · rename_i hneg
          split at e1
          · rename_i h0
            cases e1
            exact wpAny_getItem_list_neg hl hneg (by rw [hsz]; (first | lia | omega)) (by (first | lia | omega)) (by rw [hsz]; simpa using hxv) fin
          · cases e1
        · rename_i hneg
          split at e1
          · cases e1
            exact wpAny_getItem_list hl (by (first | lia | omega)) (by (first | lia | omega)) (by simpa using hxv) fin
          · cases e1
      · (first | obtain ⟨rfl, rfl⟩ := Prod.mk.inj (Option.some.inj e) | cases e)
    · obtain ⟨k1, e1, e⟩ := obind e
      obtain ⟨x, e2, e3⟩ := omap e
      cases e3
      obtain ⟨_, _, _, rfl, ha, hr⟩ := ra.tupI
      obtain ⟨hq, hlo, hhi⟩ := idxN_seq e1
      obtain ⟨xv, hxv, rx⟩ := hr.get e2
      refine tail_own PySem.F.slot_tuple_getitem.lookup ⟨_, ha, rfl⟩ ?_ (hs _ _)
      exact PySem.P.getItem_tuple ha (by (first | lia | omega)) (by (first | lia | omega)) (by rw [List.size_toArray, hr.length]; exact hq) (by simpa using hxv) (h xv s.heap s.toks φ (Ext.refl R) rx)
    · rename_i x
      obtain ⟨k1, e1, e⟩ := obind e
      (first | obtain ⟨rfl, rfl⟩ := Prod.mk.inj (Option.some.inj e) | cases e)
      (first | obtain ⟨_, rfl⟩ := ra.intI | obtain ⟨_, rfl⟩ := ra.strI | obtain rfl := ra.nilI | obtain ⟨rfl, _⟩ := ra.refI | cases ra)
      obtain ⟨hq, hlo, hhi⟩ := idxN_seq e1
      refine tail_own PySem.F.slot_str_getitem.lookup (typeIs_str _ _ _) ?_ (hs _ _)
      have hk : k1 < x.length := by
        unfold idxN at e1
        split at e1 <;> split at e1 <;> first | (cases e1; (first | lia | omega)) | cases e1
      refine SB.getItem ?_ ?_ (h _ s.heap _ φ (Ext.refl R) (.str _ _))
      · simp [fitsSsize]; (first | lia | omega)
      · unfold Txt.charAt
        rw [hq]
        show (x.cps[k1]?).isSome = true
        have : k1 < x.cps.size := hk
        simp [this]
    · split at e
      · rename_i b h0
        (first | obtain ⟨rfl, rfl⟩ := Prod.mk.inj (Option.some.inj e) | cases e)
        obtain ⟨_, rfl, hb⟩ := ra.bytesI
        refine tail_own PySem.W.FB.slot_bytes_getitem.lookup (PySem.W.typeIs_bytes _ _ _) ?_ (hs _ _)
        unfold bytesArr
        refine PySem.W.getItem_bytes (by rw [List.length_map]; (first | lia | omega)) h0.1 (by rw [List.length_map]; exact h0.2.1) ?_
        have hlt : j.toNat < b.length := by (first | lia | omega)
        have e2 : ((b.map Nat.toUInt8).getD j.toNat 0).toNat = b.getD j.toNat 0 := by
          rw [List.getD_eq_getElem?_getD, List.getD_eq_getElem?_getD, List.getElem?_map, List.getElem?_eq_getElem hlt]
          have := hb _ (List.getElem_mem hlt)
          simp only [Option.map_some, Option.getD_some, Nat.toUInt8_eq, UInt8.toNat_ofNat']
          (first | lia | omega)
        rw [e2]
        exact h _ s.heap _ φ (Ext.refl R) (.int _ _)
      · (first | obtain ⟨rfl, rfl⟩ := Prod.mk.inj (Option.some.inj e) | cases e)
    · (first | obtain ⟨rfl, rfl⟩ := Prod.mk.inj (Option.some.inj e) | cases e)
  · (first | obtain ⟨rfl, rfl⟩ := Prod.mk.inj (Option.some.inj e) | cases e)
end
end Mine
end
section
set_option maxRecDepth 100000
namespace Mine

noncomputable def cutL {α : Type} (xs : List α) (lo hi : Option Int) : List α := (xs.drop (lo.elim 0 (clipAt xs.length))).take (hi.elim xs.length (clipAt xs.length) - lo.elim 0 (clipAt xs.length))
noncomputable abbrev PF := Fm → St → Option (Option Int × St)
noncomputable def noPart : PF := fun _ σ => some (none, σ)
noncomputable def intPart (f : EF) : PF := fun ρ σ => (f ρ σ).bind fun p => match p.1 with | .int i => some (some i, p.2) | _ => none
noncomputable def cutO (a : AV) (lo hi : Option Int) (σ : St) : Option (AV × St) := match a with
  | .ref id => match σ[id]? with
    | some (.list xs) => if xs.length ≤ 65536 then some (.ref σ.length, σ ++ [.list (cutL xs lo hi)]) else none
    | _ => none
  | .blist xs => if xs.length ≤ 65536 then some (.ref σ.length, σ ++ [.list (cutL xs lo hi)]) else none
  | .bytes b => if b.length ≤ 65536 then some (.bytes (cutL b lo hi), σ) else none
  | _ => none
noncomputable def cutE (fv : EF) (fl fu : PF) : EF := fun ρ σ => (fv ρ σ).bind fun p => (fl ρ p.2).bind fun q => (fu ρ q.2).bind fun r => cutO p.1 q.1 r.1 r.2

section
variable {prog : Program} {w : World} {g : Heap} {k : Nat} {nms : List (Str × NameKind)} {nm : List Str}
variable (prog w g) in
noncomputable def SimP (k : Nat) (nms : List (Str × NameKind)) (nm : List Str) (e : Option Expr) (f : PF) : Prop :=
  ∀ env A s φ ρ σ, EnvOK nms env → Rm A k → Rel g φ σ s.heap → FrameOK g nm env φ σ.length s.heap ρ → ∀ o σ', f ρ σ = some (o, σ') → ∀ (Q E : Value → Shared → Prop),
    (∀ v h' tk φ', Ext g φ σ s.heap φ' σ' h' → IsPart v o → Q v { s with heap := h', toks := tk }) → wpAny (model prog w) A (evalPart e env) Q E s
theorem simp_none : SimP prog w g k nms nm none noPart := by
  intro env A s φ ρ σ eo hA R F o σ' e Q E h
  (first | obtain ⟨rfl, rfl⟩ := Prod.mk.inj (Option.some.inj e) | cases e)
  rw [evalPart_none]
  exact wpAny_pure (h _ s.heap s.toks φ (Ext.refl R) .none)
theorem simp_some {x : Expr} {f : EF} (h1 : SimE prog w g k nms nm x f) : SimP prog w g k nms nm (some x) (intPart f) := by
  intro env A s φ ρ σ eo hA R F o σ' e Q E h
  obtain ⟨⟨a, σ1⟩, e1, e⟩ := obind e
  dsimp only at e
  split at e
  · injection e with e
    injection e with e2 e3
    subst e2 e3
    rw [evalPart_some]
    refine h1 env A s φ ρ σ eo hA R F _ _ e1 _ _ fun v h₁ tk₁ φ₁ X₁ r₁ => ?_
    (first | obtain ⟨_, rfl⟩ := r₁.intI | obtain ⟨_, rfl⟩ := r₁.strI | obtain rfl := r₁.nilI | obtain ⟨rfl, _⟩ := r₁.refI | cases r₁)
    exact h _ h₁ tk₁ φ₁ X₁ (.int _ _)
  · (first | obtain ⟨rfl, rfl⟩ := Prod.mk.inj (Option.some.inj e) | cases e)

theorem reps_cut {φ n h xs vs} (r : Reps g φ n h xs vs) (lo hi : Option Int) : Reps g φ n h (cutL xs lo hi) (cutL vs lo hi) := by
  unfold cutL
  rw [r.length]
  exact (r.drop _).take _
theorem slicePick_cut (vs : List Value) (lo hi : Option Int) : slicePick vs.toArray lo hi none = (cutL vs lo hi).toArray := by
  rw [slicePick_plain, List.size_toArray]
  rfl
theorem picked_cut (b : List Nat) (lo hi : Option Int) : KBy.picked (bytesArr b) lo hi = bytesArr (cutL b lo hi) := by
  rw [KBc.picked_eq]
  unfold bytesArr cutL
  rw [List.size_toArray, List.length_map]
  show ((b.map Nat.toUInt8).drop _ |>.take _).toArray = _
  rw [← List.map_drop, ← List.map_take]

theorem sim_slice {v : Expr} {l u : Option Expr} {p pos : Pos} {fv : EF} {fl fu : PF} (h1 : SimE prog w g k nms nm v fv) (h2 : SimP prog w g k nms nm l fl) (h3 : SimP prog w g k nms nm u fu) :
    SimE prog w g k nms nm (.Subscript v (.Slice l u none p) pos) (cutE fv fl fu) := by
  intro env A s φ ρ σ eo hA R F av σ' e Q E h
  obtain ⟨⟨a, σ1⟩, e1, e⟩ := obind e
  obtain ⟨⟨lo, σ2⟩, e2, e⟩ := obind e
  obtain ⟨⟨hi, σ3⟩, e3, e⟩ := obind e
  refine Subscript_ (h1 env A s φ ρ σ eo hA R F a σ1 e1 _ _ fun va h₁ tk₁ φ₁ X₁ r₁ => wpAny_Slice ?_)
  refine h2 env A _ φ₁ ρ σ1 eo hA X₁.rel (F.ext X₁) lo σ2 e2 _ _ fun lv h₂ tk₂ φ₂ X₂ p₂ => ?_
  refine h3 env A _ φ₂ ρ σ2 eo hA X₂.rel ((F.ext X₁).ext X₂) hi σ3 e3 _ _ fun uv h₃ tk₃ φ₃ X₃ p₃ => ?_
  rw [evalPart_none]
  refine wpAny_pure ?_
  have XP := Ext.push X₃.rel { cls := .type "slice", data := .fields #[lv, uv, .none] }
  have X := ((X₁.trans X₂).trans X₃).trans XP
  have ra := ((r₁.ext X₂).ext X₃).ext XP
  have hsl := Heap.IsSliceOf.new h₃ lv uv .none
  unfold cutO at e
  dsimp only at e hsl ⊢
  split at e
  · split at e
    · rename_i xs hx
      split at e
      · rename_i hsz
        (first | obtain ⟨rfl, rfl⟩ := Prod.mk.inj (Option.some.inj e) | cases e)
        obtain ⟨rfl, hid⟩ := ra.refI
        obtain ⟨v1, n1, g1, q1, _⟩ := XP.rel.lst hx
        refine tail_own (o := .ref _) PySem.F.slot_list_getitem.lookup ⟨_, g1, rfl⟩ ?_ rfl
        refine wpAny_getItem_list_slice (l := φ₃ _) (items := v1.toArray) ⟨_, g1, rfl, _, rfl⟩ hsl p₂ p₃ .none (by intro hh; cases hh) ?_ (by rw [List.size_toArray, q1.length]; exact szl hsz)
        rw [slicePick_cut]
        obtain ⟨XN, rN⟩ := Ext.newList XP.rel 0 (reps_cut q1 lo hi)
        exact h _ _ _ _ (X.trans XN) rN
      · (first | obtain ⟨rfl, rfl⟩ := Prod.mk.inj (Option.some.inj e) | cases e)
    · (first | obtain ⟨rfl, rfl⟩ := Prod.mk.inj (Option.some.inj e) | cases e)
  · split at e
    · rename_i xs hsz
      (first | obtain ⟨rfl, rfl⟩ := Prod.mk.inj (Option.some.inj e) | cases e)
      obtain ⟨_, _, rfl, hb, hr⟩ := ra.blistI
      rename_i items la
      obtain ⟨ob, hob, hc, n, hd⟩ := id hb
      have hl : (h₃.push { cls := .type "slice", data := .fields #[lv, uv, .none] }).IsList la items.toArray := ⟨ob, XP.rel.base _ _ hob, hc, n, hd⟩
      refine tail_own (o := .ref _) PySem.F.slot_list_getitem.lookup hl.typeIs ?_ rfl
      refine wpAny_getItem_list_slice (l := la) (items := items.toArray) hl hsl p₂ p₃ .none (by intro hh; cases hh) ?_ (by rw [List.size_toArray, hr.length]; exact szl hsz)
      rw [slicePick_cut]
      obtain ⟨XN, rN⟩ := Ext.newList XP.rel 0 (reps_cut hr lo hi)
      exact h _ _ _ _ (X.trans XN) rN
    · (first | obtain ⟨rfl, rfl⟩ := Prod.mk.inj (Option.some.inj e) | cases e)
  · split at e
    · rename_i b hsz
      (first | obtain ⟨rfl, rfl⟩ := Prod.mk.inj (Option.some.inj e) | cases e)
      obtain ⟨t, rfl, hb⟩ := ra.bytesI
      refine tail_own (T := "bytes") FB.slot_bytes_getitem.lookup (PySem.W.typeIs_bytes _ _ _) ?_ rfl
      refine getItem_meets (PySem.W.typeIs_bytes _ _ _) (by decide) FB.slot_bytes_getitem FB.entry_bytes_getitem (FB.args_bytes_getitem_2 _ _) (KBc.meets_slice2 _ _ _ p₂ p₃) ⟨hsl, ?_, fun t' k' => ?_⟩
      · refine Nat.le_trans (KBc.size_picked_le _ _ _) ?_
        unfold bytesArr
        rw [List.size_toArray, List.length_map]
        exact szl hsz
      · rw [picked_cut]
        refine h _ _ _ φ₃ X (.bytes _ _ fun x hx => hb x ?_)
        unfold cutL at hx
        exact List.mem_of_mem_drop (List.mem_of_mem_take hx)
    · (first | obtain ⟨rfl, rfl⟩ := Prod.mk.inj (Option.some.inj e) | cases e)
  · (first | obtain ⟨rfl, rfl⟩ := Prod.mk.inj (Option.some.inj e) | cases e)
end
end Mine
end
section
set_option maxRecDepth 100000
namespace Mine
section
variable {prog : Program} {w : World} {g : Heap} {k : Nat} {nms : List (Str × NameKind)} {nm : List Str}

noncomputable def lenO : CF := fun as σ => match as with
  | [.ref id] => match σ[id]? with
    | some (.list xs) => if xs.length ≤ 65536 then some (.int xs.length, σ) else none
    | _ => none
  | [.bytes b] => if b.length ≤ 65536 then some (.int b.length, σ) else none
  | _ => none
theorem prim_len : PrimC prog w g k (.builtin "len") lenO := by
  intro A s φ σ as vs hA R r av σ' e Q E h
  unfold lenO at e
  split at e
  · split at e
    · rename_i xs hx
      split at e
      · rename_i hsz
        (first | obtain ⟨rfl, rfl⟩ := Prod.mk.inj (Option.some.inj e) | cases e)
        obtain ⟨_, rfl, r1⟩ := r.oneI
        obtain ⟨rfl, hid⟩ := r1.refI
        obtain ⟨v1, n1, h1, q1, _⟩ := R.lst hx
        refine call_len_meets ⟨_, h1, rfl⟩ PySem.F.slot_list_len PySem.F.entry_list_len (PySem.F.args_list_len_1 _) (AutoListH.list___len___list_0 _ v1.toArray n1) (by (first | lia | omega)) (by rw [List.size_toArray, q1.length]; (first | lia | omega)) (fun _ hq => ⟨h1, hq⟩) ?_
        rw [List.size_toArray, q1.length]
        exact h _ s.heap _ φ (Ext.refl R) (.int _ _)
      · (first | obtain ⟨rfl, rfl⟩ := Prod.mk.inj (Option.some.inj e) | cases e)
    · (first | obtain ⟨rfl, rfl⟩ := Prod.mk.inj (Option.some.inj e) | cases e)
  · split at e
    · rename_i b hsz
      (first | obtain ⟨rfl, rfl⟩ := Prod.mk.inj (Option.some.inj e) | cases e)
      obtain ⟨_, rfl, r1⟩ := r.oneI
      obtain ⟨t, rfl, hb⟩ := r1.bytesI
      have hz : (bytesArr b).size = b.length := by unfold bytesArr; simp
      refine PySem.W.len_bytes (by rw [hz]; (first | lia | omega)) ?_
      rw [hz]
      exact h _ s.heap _ φ (Ext.refl R) (.int _ _)
    · (first | obtain ⟨rfl, rfl⟩ := Prod.mk.inj (Option.some.inj e) | cases e)
  · (first | obtain ⟨rfl, rfl⟩ := Prod.mk.inj (Option.some.inj e) | cases e)

theorem ints_are : ∀ {vs : List Value} {ns}, Paired (fun v i => ∃ t, v = Value.int i t) vs ns → IntsAre vs ns
  | _, _, .nil => .nil
  | _, _, .cons ⟨t, e⟩ p => by subst e; exact .cons _ _ (ints_are p)
noncomputable def sumO : CF := fun as σ => match as with
  | [.ref id] => match σ[id]? with
    | some (.list xs) => (intsOf xs).map fun ns => (.int ns.sum, σ)
    | _ => none
  | _ => none
theorem prim_sum : PrimC prog w g k (.builtin "sum") sumO := by
  intro A s φ σ as vs hA R r av σ' e Q E h
  unfold sumO at e
  split at e
  · split at e
    · rename_i xs hx
      obtain ⟨ns, e1, e2⟩ := omap e
      cases e2
      obtain ⟨_, rfl, r1⟩ := r.oneI
      obtain ⟨rfl, hid⟩ := r1.refI
      obtain ⟨v1, n1, h1, q1, _⟩ := R.lst hx
      have p := ints_are (ints_paired e1 q1)
      obtain ⟨zs, hz⟩ := p.allInts.items
      have hl : s.heap.IsList (φ _) (intItems zs) := ⟨_, h1, rfl, _, by rw [← hz]⟩
      refine sum_intListG hA.hd hl fun h' tk t' hk => ?_
      have e3 : preSum (numAt zs) zs.size = ns.sum := by
        rw [preSum_eq, List.take_of_length_le (by simp), ← nums_intItems, ← hz]
        show (numsOf v1).sum = _
        rw [p.numsOf]
      rw [e3]
      exact h _ h' tk φ (Ext.grow R hk) (.int _ _)
    · (first | obtain ⟨rfl, rfl⟩ := Prod.mk.inj (Option.some.inj e) | cases e)
  · (first | obtain ⟨rfl, rfl⟩ := Prod.mk.inj (Option.some.inj e) | cases e)

noncomputable def hexS (i : Int) : Str := PySem.baseText "0x" 16 i
noncomputable def hexO : CF := fun as σ => match as with
  | [.int i] => if (hexS i).length ≤ 65536 then some (.str (hexS i), σ) else none
  | _ => none
theorem prim_hex : PrimC prog w g k (.builtin "hex") hexO := by
  intro A s φ σ as vs hA R r av σ' e Q E h
  unfold hexO at e
  split at e
  · split at e
    · rename_i i hsz
      (first | obtain ⟨rfl, rfl⟩ := Prod.mk.inj (Option.some.inj e) | cases e)
      obtain ⟨_, rfl, r1⟩ := r.oneI
      (first | obtain ⟨_, rfl⟩ := r1.intI | obtain ⟨_, rfl⟩ := r1.strI | obtain rfl := r1.nilI | obtain ⟨rfl, _⟩ := r1.refI | cases r1)
      exact PySem.P.hex_of_int (h _ s.heap _ φ (Ext.refl R) (.str _ _)) (szl hsz)
    · (first | obtain ⟨rfl, rfl⟩ := Prod.mk.inj (Option.some.inj e) | cases e)
  · (first | obtain ⟨rfl, rfl⟩ := Prod.mk.inj (Option.some.inj e) | cases e)
noncomputable def intO : CF := fun as σ => match as with | [.int i] => some (.int i, σ) | _ => none
theorem prim_int : PrimC prog w g k (.type "int") intO := by
  intro A s φ σ as vs hA R r av σ' e Q E h
  unfold intO at e
  split at e
  · (first | obtain ⟨rfl, rfl⟩ := Prod.mk.inj (Option.some.inj e) | cases e)
    obtain ⟨_, rfl, r1⟩ := r.oneI
    (first | obtain ⟨_, rfl⟩ := r1.intI | obtain ⟨_, rfl⟩ := r1.strI | obtain rfl := r1.nilI | obtain ⟨rfl, _⟩ := r1.refI | cases r1)
    exact PySem.call_int_int (h _ s.heap s.toks φ (Ext.refl R) (.int _ _))
  · (first | obtain ⟨rfl, rfl⟩ := Prod.mk.inj (Option.some.inj e) | cases e)
/-- isinstance(x, bytes), of bytes -/
noncomputable def isbO : CF := fun as σ => match as with | [.bytes _, .con (.type T)] => if T = "bytes" then some (.bool true, σ) else none | _ => none
theorem prim_isb : PrimC prog w g k (.builtin "isinstance") isbO := by
  intro A s φ σ as vs hA R r av σ' e Q E h
  unfold isbO at e
  split at e
  · split at e
    · rename_i hT
      subst hT
      (first | obtain ⟨rfl, rfl⟩ := Prod.mk.inj (Option.some.inj e) | cases e)
      obtain ⟨_, _, rfl, r1, r2⟩ := r.twoI
      (first | obtain ⟨_, rfl⟩ := r2.intI | obtain ⟨_, rfl⟩ := r2.strI | obtain rfl := r2.nilI | obtain ⟨rfl, _⟩ := r2.refI | cases r2)
      (first | obtain ⟨_, rfl⟩ := r1.intI | obtain ⟨_, rfl⟩ := r1.strI | obtain rfl := r1.nilI | obtain ⟨rfl, _⟩ := r1.refI | cases r1)
      exact call_isinstance (isinstance_true (Tx := "bytes") PySem.F.isi_meta_bytes PySem.F.sub_bytes_bytes) ⟨rfl, h _ s.heap s.toks φ (Ext.refl R) (.bool _)⟩
    · (first | obtain ⟨rfl, rfl⟩ := Prod.mk.inj (Option.some.inj e) | cases e)
  · (first | obtain ⟨rfl, rfl⟩ := Prod.mk.inj (Option.some.inj e) | cases e)

/-! methods of lists -/
noncomputable def okL : AV → St → Bool := fun a σ => match a with | .ref id => (match σ[id]? with | some (.list _) => true | _ => false) | _ => false
theorem get_list {name : Str} {id : String} (slot : Slot "list" name id) (hty : typeOf (.builtin id) = pure (.type "method_descriptor")) : ∀ A s φ σ a va (pl : Sem Bool) (Q : Value × List Value → Shared → Prop) (E : Value → Shared → Prop), Rel g φ σ s.heap → Rep g φ σ.length s.heap a va → okL a σ = true → Q (.builtin id, [va]) s → wpAny (model prog w) A (getMethod va name pl) Q E s := by
  intro A s φ σ a va pl Q E R r hok hq
  unfold okL at hok
  split at hok
  · split at hok
    · rename_i xs hx
      obtain ⟨rfl, hid⟩ := r.refI
      obtain ⟨v1, n1, h1, q1, _⟩ := R.lst hx
      exact getMethod_builtin ⟨_, h1, rfl⟩ PySem.F.plainAttrs_list slot hty (fun a e => by (first | obtain ⟨rfl, rfl⟩ := Prod.mk.inj (Option.some.inj e) | cases e); exact ⟨_, h1, rfl⟩) hq
    · cases hok
  · cases hok
noncomputable def appO : MF := fun a as σ => match a, as with
  | .ref id, [x] => match σ[id]? with
    | some (.list xs) => if xs.length ≤ 65536 then some (.con .none, σ.set id (.list (xs ++ [x]))) else none
    | _ => none
  | _, _ => none
theorem prim_append : PrimM prog w g k "append" "list.append" okL appO := by
  refine ⟨get_list PySem.F.slot_list_append PySem.F.type_list_append, ?_⟩
  intro A s φ σ a as va vs hA R ra r av σ' e Q E h
  unfold appO at e
  split at e
  · split at e
    · rename_i xs hx
      split at e
      · rename_i hsz
        (first | obtain ⟨rfl, rfl⟩ := Prod.mk.inj (Option.some.inj e) | cases e)
        obtain ⟨rfl, hid⟩ := ra.refI
        obtain ⟨_, rfl, r1⟩ := r.oneI
        obtain ⟨v1, n1, h1, q1, _⟩ := R.lst hx
        refine call_meets PySem.F.slot_list_append ⟨_, h1, rfl⟩ PySem.F.entry_list_append (PySem.F.args_list_append_2 _ _) (PySem.list_append _ v1.toArray n1 _ (by rw [List.size_toArray, q1.length]; exact szl hsz)) ⟨h1, ?_⟩
        exact h _ _ s.toks φ (Ext.updList R hid h1 _ (by simp) (q1.snoc r1)) (.con _)
      · (first | obtain ⟨rfl, rfl⟩ := Prod.mk.inj (Option.some.inj e) | cases e)
    · (first | obtain ⟨rfl, rfl⟩ := Prod.mk.inj (Option.some.inj e) | cases e)
  · (first | obtain ⟨rfl, rfl⟩ := Prod.mk.inj (Option.some.inj e) | cases e)
noncomputable def insL (xs : List AV) (i : Nat) (x : AV) : List AV := xs.take i ++ x :: xs.drop i
noncomputable def insO : MF := fun a as σ => match a, as with
  | .ref id, [.int i, x] => match σ[id]? with
    | some (.list xs) => if xs.length ≤ 65536 ∧ 0 ≤ i ∧ i ≤ xs.length then some (.con .none, σ.set id (.list (insL xs i.toNat x))) else none
    | _ => none
  | _, _ => none
theorem prim_insert : PrimM prog w g k "insert" "list.insert" okL insO := by
  refine ⟨get_list PySem.F.slot_list_insert PySem.F.type_list_insert, ?_⟩
  intro A s φ σ a as va vs hA R ra r av σ' e Q E h
  unfold insO at e
  split at e
  · split at e
    · rename_i i x _ xs hx
      split at e
      · rename_i hc
        (first | obtain ⟨rfl, rfl⟩ := Prod.mk.inj (Option.some.inj e) | cases e)
        obtain ⟨rfl, hid⟩ := ra.refI
        obtain ⟨_, _, rfl, r1, r2⟩ := r.twoI
        (first | obtain ⟨_, rfl⟩ := r1.intI | obtain ⟨_, rfl⟩ := r1.strI | obtain rfl := r1.nilI | obtain ⟨rfl, _⟩ := r1.refI | cases r1)
        obtain ⟨v1, n1, h1, q1, _⟩ := R.lst hx
        have hl := q1.length
        refine call_meets PySem.F.slot_list_insert ⟨_, h1, rfl⟩ PySem.F.entry_list_insert (PySem.F.args_list_insert_3 _ _ _) (AutoListH.list_insert_list_int_val_1 _ v1.toArray n1 i _ _ (by simp [Builtin.List.listFitsIndex]; (first | lia | omega)) (by rw [List.size_toArray, hl]; exact szl hc.1)) ⟨h1, ?_⟩
        refine h _ _ s.toks φ (Ext.updList (v2 := v1.take i.toNat ++ _ :: v1.drop i.toNat) R hid h1 _ ?_ ((q1.take i.toNat).append (.cons r2 (q1.drop i.toNat)))) (.con _)
        have hn : ¬ i < 0 := by (first | lia | omega)
        have hm : min i.toNat v1.length = i.toNat := by (first | lia | omega)
        apply Array.toList_inj.mp
        simp [hn, hm]
        exact List.take_of_length_le (by simp)
      · (first | obtain ⟨rfl, rfl⟩ := Prod.mk.inj (Option.some.inj e) | cases e)
    · (first | obtain ⟨rfl, rfl⟩ := Prod.mk.inj (Option.some.inj e) | cases e)
  · (first | obtain ⟨rfl, rfl⟩ := Prod.mk.inj (Option.some.inj e) | cases e)
/-! methods of strings -/
noncomputable def okS : AV → St → Bool := fun a _ => match a with | .str _ => true | _ => false
theorem get_str {name : Str} {id : String} (slot : Slot "str" name id) (hty : typeOf (.builtin id) = pure (.type "method_descriptor")) : ∀ A s φ σ a va (pl : Sem Bool) (Q : Value × List Value → Shared → Prop) (E : Value → Shared → Prop), Rel g φ σ s.heap → Rep g φ σ.length s.heap a va → okS a σ = true → Q (.builtin id, [va]) s → wpAny (model prog w) A (getMethod va name pl) Q E s := by
  intro A s φ σ a va pl Q E R r hok hq
  unfold okS at hok
  split at hok
  · (first | obtain ⟨_, rfl⟩ := r.intI | obtain ⟨_, rfl⟩ := r.strI | obtain rfl := r.nilI | obtain ⟨rfl, _⟩ := r.refI | cases r)
    exact getMethod_builtin (typeIs_str _ _ _) PySem.F.plainAttrs_str slot hty (fun a e => by cases e) hq
  · cases hok
theorem reps_strs {φ n h} : ∀ (l : List (Str × Tok)), Reps g φ n h (l.map fun p => .str p.1) (strValues l)
  | [] => .nil
  | p :: l => .cons (.str _ _) (reps_strs l)
noncomputable def splO : MF := fun a as σ => match a, as with
  | .str x, [.str y] => if (y.length == 0) = false ∧ x.length ≤ 65536 then some (.ref σ.length, σ ++ [.list ((Txt.split x y).map .str)]) else none
  | _, _ => none
theorem prim_split : PrimM prog w g k "split" "str.split" okS splO := by
  refine ⟨get_str PySem.F.slot_str_split PySem.F.type_str_split, ?_⟩
  intro A s φ σ a as va vs hA R ra r av σ' e Q E h
  unfold splO at e
  split at e
  · split at e
    · rename_i x y hc
      obtain ⟨hy, hx⟩ := hc
      (first | obtain ⟨rfl, rfl⟩ := Prod.mk.inj (Option.some.inj e) | cases e)
      obtain ⟨t, rfl⟩ := ra.strI
      obtain ⟨_, rfl, r1⟩ := r.oneI
      obtain ⟨u, rfl⟩ := r1.strI
      have main : ∀ (l : List (Str × Tok)) (n : Nat) (tk : Tok), l.map (·.1) = Txt.split x y → Q (.ref s.heap.objs.size) { s with heap := s.heap.push (lstObj (strValues l) n), toks := tk } := fun l n tk hl => by
        have q := reps_strs (g := g) (φ := φ) (n := σ.length) (h := s.heap) l
        have e2 : (l.map fun p => AV.str p.1) = (Txt.split x y).map .str := by rw [← hl, List.map_map]; rfl
        rw [e2] at q
        obtain ⟨X, rr⟩ := Ext.newList R n q
        exact h _ _ tk _ X rr
      cases h1 : (decide (x.length < y.length) || decide (Builtin.Str.strKind x < Builtin.Str.strKind y))
      · cases hf : (Builtin.Str.occurrences x y 0 x.length (x.length + 1)).isEmpty
        · have hsp : Txt.split x y = Builtin.Str.partsBetween x (Builtin.Str.occurrences x y 0 x.length (x.length + 1)) y.length := (if_neg (ne_true_of_eq_false h1)).trans (if_neg (ne_true_of_eq_false hf))
          have hn : (Builtin.Str.partsBetween x (Builtin.Str.occurrences x y 0 x.length (x.length + 1)) y.length).length ≤ sizeLine := by
            rw [← hsp]
            have := (fact_split x y).2
            exact Nat.le_trans this (by have : (65538 : Nat) ≤ sizeLine := by decide +kernel
                                        (first | lia | omega))
          refine call_meets PySem.F.slot_str_split (typeIs_str _ _ _) PySem.F.entry_str_split (PySem.F.args_str_split_2 _ _) (meets_str_split_sep x y t u h1 hy hf (szl hx) hn) ?_
          show wants Q E _ { s with toks := _, heap := s.heap.push { cls := .type "list", data := .seq (strsFrom s.toks (Builtin.Str.partsBetween x (Builtin.Str.occurrences x y 0 x.length (x.length + 1)) y.length)).toArray } }
          rw [strsFrom_eq]
          exact main _ 0 _ ((numbered_texts _ _).trans hsp.symm)
        · exact call_meets PySem.F.slot_str_split (typeIs_str _ _ _) PySem.F.entry_str_split (PySem.F.args_str_split_2 _ _) (meets_str_split_not_found x y t u h1 hy hf) (main [(x, t)] 0 s.toks ((if_neg (ne_true_of_eq_false h1)).trans (if_pos hf)).symm)
      · exact call_meets PySem.F.slot_str_split (typeIs_str _ _ _) PySem.F.entry_str_split (PySem.F.args_str_split_2 _ _) (meets_str_split_cannot_occur x y t u h1) (main [(x, t)] 0 s.toks (if_pos h1).symm)
    · (first | obtain ⟨rfl, rfl⟩ := Prod.mk.inj (Option.some.inj e) | cases e)
  · (first | obtain ⟨rfl, rfl⟩ := Prod.mk.inj (Option.some.inj e) | cases e)
theorem strs_pairs : ∀ {vs : List Value} {ns : List Str}, Paired (fun v i => ∃ t, v = Value.str i t) vs ns → ∃ l : List (Str × Tok), vs = strValues l ∧ l.map (·.1) = ns
  | _, _, .nil => ⟨[], rfl, rfl⟩
  | _, _, .cons ⟨t, e⟩ p => by
    obtain ⟨l, h1, h2⟩ := strs_pairs p
    subst e h1 h2
    exact ⟨(_, t) :: l, rfl, rfl⟩
noncomputable def joinO : MF := fun a as σ => match a, as with
  | .str x, [.ref id] => match σ[id]? with
    | some (.list xs) => match strsOf xs with
      | some ss => if Builtin.Str.tooLong (ss.toArray.foldl (· + ·.length + x.length) 0) = false then some (.str (Builtin.Str.glued x ss), σ) else none
      | none => none
    | _ => none
  | _, _ => none
theorem prim_join : PrimM prog w g k "join" "str.join" okS joinO := by
  refine ⟨get_str PySem.F.slot_str_join PySem.F.type_str_join, ?_⟩
  intro A s φ σ a as va vs hA R ra r av σ' e Q E h
  unfold joinO at e
  split at e
  · split at e
    · split at e
      · rename_i x _ _ xs hx _ ss hss
        split at e
        · rename_i hl
          (first | obtain ⟨rfl, rfl⟩ := Prod.mk.inj (Option.some.inj e) | cases e)
          obtain ⟨t, rfl⟩ := ra.strI
          obtain ⟨_, rfl, r1⟩ := r.oneI
          obtain ⟨rfl, hid⟩ := r1.refI
          obtain ⟨v1, n1, h1, q1, _⟩ := R.lst hx
          obtain ⟨l, e1, e2⟩ := strs_pairs (strs_paired hss q1)
          subst e1 e2
          refine call_meets PySem.F.slot_str_join (typeIs_str _ _ _) PySem.F.entry_str_join (PySem.F.args_str_join_2 _ _) (meets_str_join_list x t _ l hl) ⟨⟨_, h1, rfl, _, rfl⟩, ?_⟩
          have hfit := joinFit_length hl
          have fin : ∀ t' tk, Q (.str (Builtin.Str.glued x (l.map (·.1))) t') { s with toks := tk } := fun t' tk => h _ s.heap tk φ (Ext.refl R) (.str _ _)
          match l, hfit, fin with
          | [], hfit, fin => exact ⟨hfit, fin _ _⟩
          | [p], hfit, fin => exact fin _ s.toks
          | p :: q :: l, hfit, fin => exact ⟨hfit, fin _ _⟩
        · (first | obtain ⟨rfl, rfl⟩ := Prod.mk.inj (Option.some.inj e) | cases e)
      · (first | obtain ⟨rfl, rfl⟩ := Prod.mk.inj (Option.some.inj e) | cases e)
    · (first | obtain ⟨rfl, rfl⟩ := Prod.mk.inj (Option.some.inj e) | cases e)
  · (first | obtain ⟨rfl, rfl⟩ := Prod.mk.inj (Option.some.inj e) | cases e)

/-! look-up in a dictionary of ints and strings -/
noncomputable def tabGet (T : List (Int × Str)) (i : Int) : Option Str := (T.find? fun p => p.1 == i).map (·.2)
noncomputable def okD (d : Addr) : AV → St → Bool := fun a _ => match a with | .con (.ref b) => b == d | _ => false
noncomputable def getD (T : List (Int × Str)) : MF := fun _ as σ => match as with | [.int i, .str x] => some (.str ((tabGet T i).getD x), σ) | _ => none
theorem prim_dget {d : Addr} {T : List (Int × Str)} (hT : ∀ (prog : Program) (w : World), IntTab prog w g d (T.map fun p => (PyData.int p.1, PyData.str p.2))) : PrimM prog w g k "get" "dict.get" (okD d) (fun a as σ => match a with | .con (.ref b) => if b = d then getD T a as σ else none | _ => none) := by
  refine ⟨?_, ?_⟩
  · intro A s φ σ a va pl Q E R r hok hq
    unfold okD at hok
    split at hok
    · rename_i b
      have : b = d := eq_of_beq hok
      subst this
      (first | obtain ⟨_, rfl⟩ := r.intI | obtain ⟨_, rfl⟩ := r.strI | obtain rfl := r.nilI | obtain ⟨rfl, _⟩ := r.refI | cases r)
      exact getMethod_intTab_get ((hT prog w).keep R.base) hq
    · cases hok
  · intro A s φ σ a as va vs hA R ra r av σ' e Q E h
    split at e
    · split at e
      · rename_i b hb
        subst hb
        (first | obtain ⟨_, rfl⟩ := ra.intI | obtain ⟨_, rfl⟩ := ra.strI | obtain rfl := ra.nilI | obtain ⟨rfl, _⟩ := ra.refI | cases ra)
        unfold getD at e
        split at e
        · rename_i i x
          (first | obtain ⟨rfl, rfl⟩ := Prod.mk.inj (Option.some.inj e) | cases e)
          obtain ⟨_, _, rfl, r1, r2⟩ := r.twoI
          (first | obtain ⟨_, rfl⟩ := r1.intI | obtain ⟨_, rfl⟩ := r1.strI | obtain rfl := r1.nilI | obtain ⟨rfl, _⟩ := r1.refI | cases r1)
          (first | obtain ⟨_, rfl⟩ := r2.intI | obtain ⟨_, rfl⟩ := r2.strI | obtain rfl := r2.nilI | obtain ⟨rfl, _⟩ := r2.refI | cases r2)
          refine call_get2_intTab ((hT prog w).keep R.base) (PyProof.V.Flat.str _ _) fun v hv => ?_
          have e3 : (lookup (.int i) (T.map fun p => (PyData.int p.1, PyData.str p.2))).getD (.str x) = .str ((tabGet T i).getD x) := by
            clear hT hv h
            induction T with
            | nil => rfl
            | cons p T ih =>
              rw [List.map_cons, PySem.Spec.lookup]
              have hs : PySem.Spec.same (PyData.int p.1) (PyData.int i) = (p.1 == i) := by unfold PySem.Spec.same; rfl
              rw [hs]
              unfold tabGet
              rw [List.find?_cons]
              cases hp : p.1 == i with
              | true => simp
              | false => simpa [tabGet] using ih
          rw [e3] at hv
          obtain ⟨t', rfl⟩ := hv.str_inv
          exact h _ s.heap _ φ (Ext.refl R) (.str _ _)
        · (first | obtain ⟨rfl, rfl⟩ := Prod.mk.inj (Option.some.inj e) | cases e)
      · (first | obtain ⟨rfl, rfl⟩ := Prod.mk.inj (Option.some.inj e) | cases e)
    · (first | obtain ⟨rfl, rfl⟩ := Prod.mk.inj (Option.some.inj e) | cases e)
end
end Mine
end
section
set_option maxRecDepth 100000
namespace Mine

theorem slot_ba_setitem : Slot "bytearray" "__setitem__" "bytearray.__setitem__" :=
  .of (owner := "bytearray") (n := "__setitem__") (by rw [typeLookup_type, builtinLookup_eq_fast]; kernel_rfl) (by decide +kernel) (by decide +kernel) (by decide +kernel)
    (by first | exact .inl (by decide +kernel) | exact .inr (by decide +kernel)) (by rw [isSubtype_type]; kernel_rfl)
theorem entry_ba_setitem : entryFor table "bytearray.__setitem__" = some Builtin.«bytearray.__setitem__» := entryFor_of_tree (by kernel_rfl)
theorem args_ba_setitem (a b c : Value) : argsOk "bytearray.__setitem__" ⟨[a, b, c], []⟩ := by unfold argsOk; kernel_rfl
theorem ba_no_bytes : typeLookup (.type "bytearray") "__bytes__" = pure none := by rw [typeLookup_type, builtinLookup_eq_fast]; kernel_rfl
theorem ba_no_index : typeLookup (.type "bytearray") "__index__" = pure none := by rw [typeLookup_type, builtinLookup_eq_fast]; kernel_rfl
theorem ba_buffer : typeLookup (.type "bytearray") "__buffer__" = pure (some (.builtin "bytearray.__buffer__")) := by rw [typeLookup_type, builtinLookup_eq_fast]; kernel_rfl
theorem ba_release : typeLookup (.type "bytearray") "__release_buffer__" = pure (some (.builtin "bytearray.__release_buffer__")) := by rw [typeLookup_type, builtinLookup_eq_fast]; kernel_rfl
theorem ba_sub : isSubtype (.type "bytearray") (.type "bytearray") = pure true := by rw [isSubtype_type]; kernel_rfl

section
variable {prog : Program} {w : World} {g : Heap} {k : Nat}
theorem typ_ba {s : Shared} {a : Addr} {b : List Nat} (h : s.heap.get? a = some (barObj b)) : s.TypeIs (.ref a) "bytearray" := ⟨_, h, rfl⟩

theorem set_ba {A s} {a : Addr} {b : List Nat} {i x : Int} {t u : Tok} {E : Value → Shared → Prop} {Q : Unit → Shared → Prop} (ha : s.heap.get? a = some (barObj b)) (h0 : 0 ≤ i) (h1 : i < b.length) (hsz : b.length ≤ 65536) (hx : 0 ≤ x ∧ x < 256)
    (h : Q () { s with heap := s.heap.update a (Obj.mapBytearray (·.setIfInBounds i.toNat x.toNat.toUInt8)) }) : wpAny (model prog w) A (setItem (.ref a) (.int i t) (.int x u)) Q E s := by
  have hT := typ_ba ha
  unfold setItem
  refine wpAny_holding ?_
  refine wpAny_bind (wpAny_sequenceKey hT (by decide) ?_)
  refine wpAny_bind (wpAny_callSpecial?_slot (name := Str.ofString "__setitem__") hT slot_ba_setitem
    (wpAny_call_entry slot_ba_setitem hT entry_ba_setitem ?_ (args_ba_setitem _ _ _)))
  show wpAny _ _ (Builtin.Bytes.subscript? (.int i t) >>= _) _ _ s
  refine wpAny_bind ?_
  unfold Builtin.Bytes.subscript?
  refine wpAny_bind (wpAny_specialOf (typeIs_int s i t) PySem.F.slot_int_index.lookup ?_)
  have hf : Builtin.Bytes.fitsIndex i = true := by simp only [Builtin.Bytes.fitsIndex, Bool.and_eq_true, decide_eq_true_eq]; (first | lia | omega)
  show wpAny _ _ (if (!Builtin.Bytes.fitsIndex i) = true then _ else pure (some i)) _ _ s
  rw [hf]
  refine wpAny_pure ?_
  show wpAny _ _ (Builtin.Bytes.byteValue (.int x u) >>= _) _ _ s
  refine wpAny_bind ?_
  unfold Builtin.Bytes.byteValue
  refine wpAny_bind (wpAny_of_eq (rfl : asIndex (.int x u) = pure x) ?_)
  refine wpAny_ite ?_
  rw [if_neg (by simp; (first | lia | omega))]
  refine wpAny_pure ?_
  refine wpAny_bind ?_
  unfold Builtin.Bytes.payload Builtin.Bytes.payload?
  refine wpAny_bind (wpAny_bind (wpAny_load ha ?_))
  refine wpAny_pure (wpAny_pure ?_)
  have hs : seqIndex? i (bytesArr b).size = some i.toNat := by
    have hn : ¬ i < 0 := by (first | lia | omega)
    have hz : (bytesArr b).size = b.length := by unfold bytesArr; simp
    simp [seqIndex?, hn, h0, hz, h1]
  rw [hs]
  show wpAny _ _ (updateBytearray a (·.setIfInBounds i.toNat x.toNat.toUInt8) >>= _) _ _ s
  refine wpAny_bind ?_
  unfold updateBytearray
  refine wpAny_bind (wpAny_load ha ?_)
  show wpAny _ _ (update a (Obj.mapBytearray (·.setIfInBounds i.toNat x.toNat.toUInt8)) >>= fun _ => lookBehind a) _ _ _
  refine wpAny_bind (wpAny_update ha ?_)
  have hS := Heap.get?_update_self (Obj.mapBytearray (·.setIfInBounds i.toNat x.toNat.toUInt8)) ha rfl
  refine wpAny_lookBehind hS ?_ ?_
  · show (if ((bytesArr b).setIfInBounds i.toNat x.toNat.toUInt8).size > sizeLine then some "bytearray:memory" else none) = none
    rw [if_neg]
    rw [Array.size_setIfInBounds]
    have hz : (bytesArr b).size = b.length := by unfold bytesArr; simp
    have := szl hsz
    (first | lia | omega)
  · first
      | exact wpAny_pure ⟨.none, rfl, wpAny_pure h⟩
      | exact wpAny_bind (wpAny_pure (wpAny_pure ⟨.none, rfl, wpAny_pure h⟩))

theorem Rel.bar {φ σ h id b} (R : Rel g φ σ h) (e : σ[id]? = some (AO.barr b)) : h.get? (φ id) = some (barObj b) ∧ (∀ x ∈ b, x < 256) ∧ id < σ.length := by
  obtain ⟨ob, hob, hr⟩ := R.objs id _ e
  cases hr with
  | barr hb => exact ⟨hob, hb, (List.getElem?_eq_some_iff.mp e).1⟩

theorem set_list {A s} {l : Addr} {vs : List Value} {n : Nat} {i : Int} {t : Tok} {v : Value} {E : Value → Shared → Prop} {Q : Unit → Shared → Prop} (ho : s.heap.get? l = some (lstObj vs n)) (h0 : 0 ≤ i) (h1 : i < vs.length) (hsz : vs.length ≤ 65536)
    (h : Q () { s with heap := s.heap.update l (Obj.mapSeq (·.setIfInBounds i.toNat v)) }) : wpAny (model prog w) A (setItem (.ref l) (.int i t) v) Q E s := by
  have hl : s.heap.IsList l vs.toArray := ⟨_, ho, rfl, _, rfl⟩
  unfold setItem
  refine wpAny_holding ?_
  refine wpAny_bind (wpAny_sequenceKey hl.typeIs (by decide) ?_)
  refine wpAny_bind (wpAny_callSpecial?_slot (name := Str.ofString "__setitem__") hl.typeIs slot_list_setitem
    (wpAny_call_entry slot_list_setitem hl.typeIs entry_list_setitem ?_ (args_list_setitem _ _ _)))
  show wpAny _ _ (Builtin.List.listSubscript? (.int i t) >>= _) _ _ s
  refine wpAny_bind (wpAny_listSubscript_int (fitsIndex_of h0 (by (first | lia | omega))) ?_)
  obtain ⟨j, rfl⟩ := Int.eq_ofNat_of_zero_le h0
  have hj : j < vs.toArray.size := by rw [List.size_toArray]; (first | lia | omega)
  have hx' : vs.toArray[j]? = some vs.toArray[j] := Array.getElem?_eq_getElem hj
  show wpAny _ _ ((seqItemAt l j >>= fun r => pure (r.map (j, ·))) >>= _) _ _ s
  refine wpAny_bind (wpAny_bind (wpAny_seqItemAt ho rfl (wpAny_pure ?_)))
  rw [hx']
  show wpAny _ _ (setSeqItemAt l j v >>= _) _ _ s
  refine wpAny_bind (wpAny_setSeqItemAt ho rfl ?_)
  first
    | exact wpAny_bind (wpAny_pure (wpAny_pure ⟨.none, rfl, wpAny_pure h⟩))
    | exact wpAny_pure ⟨.none, rfl, wpAny_pure h⟩

noncomputable def setO : WF := fun a b c σ => match a, b with
  | .ref id, .int i => match σ[id]? with
    | some (.list xs) => if 0 ≤ i ∧ i < xs.length ∧ xs.length ≤ 65536 then some (σ.set id (.list (xs.set i.toNat c))) else none
    | some (.barr bs) => match c with
      | .int x => if 0 ≤ i ∧ i < bs.length ∧ bs.length ≤ 65536 ∧ 0 ≤ x ∧ x < 256 then some (σ.set id (.barr (bs.set i.toNat x.toNat))) else none
      | _ => none
    | _ => none
  | _, _ => none
theorem prim_set : PrimW prog w g k setO := by
  intro A s φ σ a b c va vb vc hA R ra rb rc σ' e Q E h
  unfold setO at e
  split at e
  · split at e
    · rename_i id i _ xs hx
      split at e
      · rename_i hc
        (first | obtain ⟨rfl, rfl⟩ := Prod.mk.inj (Option.some.inj e) | cases e)
        obtain ⟨rfl, hid⟩ := ra.refI
        (first | obtain ⟨_, rfl⟩ := rb.intI | obtain ⟨_, rfl⟩ := rb.strI | obtain rfl := rb.nilI | obtain ⟨rfl, _⟩ := rb.refI | cases rb)
        obtain ⟨v1, n1, h1, q1, _⟩ := R.lst hx
        refine set_list h1 hc.1 (by rw [q1.length]; exact hc.2.1) (by rw [q1.length]; exact hc.2.2) ?_
        exact h _ s.toks φ (Ext.updList R hid h1 _ (v2 := v1.set i.toNat _) (by simp) (q1.set rc i.toNat))
      · (first | obtain ⟨rfl, rfl⟩ := Prod.mk.inj (Option.some.inj e) | cases e)
    · rename_i id i _ bs hx
      split at e
      · rename_i x
        split at e
        · rename_i hc
          obtain ⟨h0, h1, h2, h3, h4⟩ := hc
          (first | obtain ⟨rfl, rfl⟩ := Prod.mk.inj (Option.some.inj e) | cases e)
          obtain ⟨rfl, hid⟩ := ra.refI
          (first | obtain ⟨_, rfl⟩ := rb.intI | obtain ⟨_, rfl⟩ := rb.strI | obtain rfl := rb.nilI | obtain ⟨rfl, _⟩ := rb.refI | cases rb)
          (first | obtain ⟨_, rfl⟩ := rc.intI | obtain ⟨_, rfl⟩ := rc.strI | obtain rfl := rc.nilI | obtain ⟨rfl, _⟩ := rc.refI | cases rc)
          obtain ⟨hob, hb, _⟩ := R.bar hx
          refine set_ba hob h0 h1 h2 ⟨h3, h4⟩ ?_
          have hS := Heap.get?_update_self (Obj.mapBytearray (·.setIfInBounds i.toNat x.toNat.toUInt8)) hob rfl
          have hb' : ∀ y ∈ bs.set i.toNat x.toNat, y < 256 := fun y hy => by
            rcases List.mem_or_eq_of_mem_set hy with hy | rfl
            · exact hb y hy
            · (first | lia | omega)
          have X := Ext.upd (ao := .barr (bs.set i.toNat x.toNat)) R hid (fun b o hb e => (Heap.SameBut.update ..).extBut b o hb e) hS (by
            have e9 : Obj.mapBytearray (·.setIfInBounds i.toNat x.toNat.toUInt8) (barObj bs) = barObj (bs.set i.toNat x.toNat) := by
              show ({ cls := .type "bytearray", data := .bytearray ((bytesArr bs).setIfInBounds i.toNat x.toNat.toUInt8) 0 } : Obj) = _
              have : (bytesArr bs).setIfInBounds i.toNat x.toNat.toUInt8 = bytesArr (bs.set i.toNat x.toNat) := by
                unfold bytesArr
                rw [List.map_set]
                simp
              rw [this]
            rw [e9]
            exact .barr hb')
          exact h _ s.toks φ X
        · (first | obtain ⟨rfl, rfl⟩ := Prod.mk.inj (Option.some.inj e) | cases e)
      · (first | obtain ⟨rfl, rfl⟩ := Prod.mk.inj (Option.some.inj e) | cases e)
    · (first | obtain ⟨rfl, rfl⟩ := Prod.mk.inj (Option.some.inj e) | cases e)
  · (first | obtain ⟨rfl, rfl⟩ := Prod.mk.inj (Option.some.inj e) | cases e)

/-! bytes of ints -/
noncomputable def bytO : CF := fun as σ => match as with
  | [.ref id] => match σ[id]? with
    | some (.list xs) => match intsOf xs with
      | some ns => if ns.all (fun n => decide (0 ≤ n) && decide (n < 256)) = true ∧ xs.length ≤ 65536 then some (.bytes (ns.map Int.toNat), σ) else none
      | none => none
    | some (.barr b) => if b.length ≤ 65536 then some (.bytes b, σ) else none
    | _ => none
  | _ => none
theorem byteArr_nat {ns : List Int} : PySem.byteArr ns = bytesArr (ns.map Int.toNat) := by
  unfold PySem.byteArr bytesArr
  rw [List.map_map]
  rfl
theorem bytes_of_ba {A s} {a : Addr} {b : List Nat} {E : Value → Shared → Prop} {Q : Value → Shared → Prop} (ha : s.heap.get? a = some (barObj b)) (hsz : b.length ≤ 65536)
    (hQ : ∀ t k, Q (.bytes (bytesArr b) t) { s with toks := k }) : codeAny (model prog w) A (.call (.builtin "bytes.__new__") ⟨[.type "bytes", .ref a], []⟩) (wants Q E) s := by
  refine codeAny_of_tree ?_
  show wpAny _ A.in1 (do checkBuiltinCall "bytes.__new__" ⟨[.type "bytes", .ref a], []⟩; again (.builtin "bytes.__new__" ⟨[.type "bytes", .ref a], []⟩)) _ _ s
  refine wpAny_bind (wpAny_of_eq (PySem.F.bm_newCall _) (wpAny_pure ⟨plainId_quiet PySem.F.bm_plain _, codeAny_builtin PySem.F.bm_entry ?_⟩))
  rw [Around.under_plainId PySem.F.bm_plain _]
  have hT := typ_ba ha
  unfold Builtin.«bytes.__new__»
  refine wpAny_bind (wpAny_of_eq (a := true) rfl ?_)
  refine bm_if_false rfl ?_
  refine wpAny_bind (wpAny_of_eq PySem.F.bm_sub ?_)
  refine bm_if_false rfl ?_
  refine wpAny_bind (wpAny_of_eq (PySem.F.bm_bind _) ?_)
  refine wpAny_bind (wpAny_of_eq (a := ()) rfl ?_)
  refine wpAny_bind (wpAny_of_eq (a := ()) rfl ?_)
  refine bm_if_false rfl ?_
  refine wpAny_bind (wpAny_specialOf hT ba_no_bytes ?_)
  refine wpAny_bind (wpAny_bind ?_)
  show wpAny _ _ (load a >>= _) _ _ _
  refine wpAny_bind (wpAny_load ha ?_)
  refine wpAny_pure (wpAny_pure ?_)
  refine bm_if_false rfl ?_
  refine wpAny_bind (wpAny_specialOf hT ba_no_index ?_)
  refine bm_if_true rfl ?_
  first
    | show wpAny _ _ (Builtin.Bytes.buffer? "bytes.__new__" (.ref a) true >>= _) _ _ _
    | (refine wpAny_bind ?_; show wpAny _ _ (Builtin.Bytes.buffer? "bytes.__new__" (.ref a) true >>= _) _ _ _)
  have buf : ∀ {Q' : Option (Array UInt8) → Shared → Prop} {E'}, Q' (some (bytesArr b)) s → wpAny (model prog w) A.in1 (Builtin.Bytes.buffer? "bytes.__new__" (.ref a) true) Q' E' s := by
    intro Q' E' hq
    have inst : ∀ {Q'' : Bool → Shared → Prop} {E''} , Q'' true s → ∀ T : String, T = "bytearray" → wpAny (model prog w) A.in1 (isInstance (.ref a) (.type T)) Q'' E'' s := by
      intro Q'' E'' hq T hT'
      subst hT'
      exact wpAny_isInstance hT ba_sub hq
    unfold Builtin.Bytes.buffer?
    refine wpAny_bind (wpAny_specialOf hT ba_buffer ?_)
    refine wpAny_bind ?_
    · unfold Builtin.Bytes.slotIsOwn
      refine wpAny_bind (wpAny_specialOf hT ba_buffer ?_)
      refine wpAny_ite ?_
      rw [if_neg (by decide +kernel)]
      refine inst ?_ _ (by decide +kernel)
      refine bm_if_false rfl ?_
      refine wpAny_bind (wpAny_specialOf hT ba_buffer ?_)
      refine wpAny_bind ?_
      unfold Builtin.Bytes.ownRelease Builtin.Bytes.slotIsOwn
      refine wpAny_bind (wpAny_bind (wpAny_specialOf hT ba_release ?_))
      refine wpAny_ite ?_
      rw [if_neg (by decide +kernel)]
      refine inst ?_ _ (by decide +kernel)
      refine wpAny_pure ?_
      refine bm_if_false rfl ?_
      refine wpAny_bind ?_
      unfold Builtin.Bytes.payload Builtin.Bytes.payload?
      refine wpAny_bind (wpAny_bind (wpAny_load ha ?_))
      exact wpAny_pure (wpAny_pure (wpAny_pure hq))
  refine wpAny_bind (buf ?_)
  have hz : (bytesArr b).size ≤ sizeLine := by
    unfold bytesArr
    rw [List.size_toArray, List.length_map]
    exact szl hsz
  refine wpAny_bind (wpAny_rule (wpAny_bind (wpAny_mkBytes ?_ hz)))
  first
    | (refine wpAny_bind ?_
       show wpAny _ _ (if (Value.type "bytes" == Value.type "bytes") = true then _ else _) _ _ _
       refine bm_if_true (by decide) ?_
       first
         | exact wpAny_pure (wpAny_pure (hQ _ _))
         | exact wpAny_bind (wpAny_pure (wpAny_pure (wpAny_pure (hQ _ _)))))
    | (show wpAny _ _ (if (Value.type "bytes" == Value.type "bytes") = true then _ else _) _ _ _
       refine bm_if_true (by decide) ?_
       first
         | exact wpAny_pure (hQ _ _)
         | exact wpAny_bind (wpAny_pure (wpAny_pure (hQ _ _))))
theorem prim_bytes : PrimC prog w g k (.type "bytes") bytO := by
  intro A s φ σ as vs hA R r av σ' e Q E h
  unfold bytO at e
  split at e
  · split at e
    · rename_i xs hx
      split at e
      · rename_i ns hns
        split at e
        · rename_i hc
          (first | obtain ⟨rfl, rfl⟩ := Prod.mk.inj (Option.some.inj e) | cases e)
          obtain ⟨_, rfl, r1⟩ := r.oneI
          obtain ⟨rfl, hid⟩ := r1.refI
          obtain ⟨v1, n1, h1, q1, _⟩ := R.lst hx
          have hin : ∀ n ∈ ns, 0 ≤ n ∧ n < 256 := fun n hn => by
            have := List.all_eq_true.mp hc.1 n hn
            simpa using this
          refine PySem.call_bytes_ints (ns := ns) (vs := v1) ⟨_, h1, rfl, _, rfl⟩ (ints_are (ints_paired hns q1)) hin (by rw [q1.length]; exact szl hc.2) hA.hd fun h' t k' hk => ?_
          rw [byteArr_nat]
          refine h _ h' k' φ (Ext.grow R hk) (.bytes _ _ fun y hy => ?_)
          obtain ⟨n, hn, rfl⟩ := List.mem_map.mp hy
          have := hin n hn
          (first | lia | omega)
        · (first | obtain ⟨rfl, rfl⟩ := Prod.mk.inj (Option.some.inj e) | cases e)
      · (first | obtain ⟨rfl, rfl⟩ := Prod.mk.inj (Option.some.inj e) | cases e)
    · rename_i b hx
      split at e
      · rename_i hsz
        (first | obtain ⟨rfl, rfl⟩ := Prod.mk.inj (Option.some.inj e) | cases e)
        obtain ⟨_, rfl, r1⟩ := r.oneI
        obtain ⟨rfl, hid⟩ := r1.refI
        obtain ⟨hob, hb, _⟩ := R.bar hx
        refine callType_codes (Q₁ := fun obj s₁ => s₁.TypeIs obj "bytes" ∧ Q obj s₁) PySem.F.bm_called (PySem.F.bm_typeCall _) PySem.F.entry_object_init
          (bytes_of_ba (A := A.in1) hob hsz fun t k' => ⟨PySem.W.typeIs_bytes _ _ _, h _ s.heap k' φ (Ext.refl R) (.bytes _ _ hb)⟩) fun obj s₁ h₁ => ?_
        exact ⟨h₁.1, PySem.F.args_object_init_2 obj _, object_init_meets PySem.F.bm_called.init.lookup PySem.F.bm_called.made (by decide) prog w A.in1 _ s₁ ⟨h₁.1, rfl, h₁.2⟩⟩
      · (first | obtain ⟨rfl, rfl⟩ := Prod.mk.inj (Option.some.inj e) | cases e)
    · (first | obtain ⟨rfl, rfl⟩ := Prod.mk.inj (Option.some.inj e) | cases e)
  · (first | obtain ⟨rfl, rfl⟩ := Prod.mk.inj (Option.some.inj e) | cases e)
end
end Mine
end
section
open PySem.AutoSeq1 (wpAny_loadPart')
set_option maxRecDepth 100000
namespace Mine

section
variable {prog : Program} {w : World} {A : Around} {E : Value → Shared → Prop} {s : Shared}
end
section
variable {prog : Program} {w : World} {g : Heap} {k : Nat}
end
end Mine
end
section
set_option maxRecDepth 100000
namespace Mine
/-! sorted of a list of ints -/
noncomputable def insI (x : Int) : List Int → List Int
  | [] => [x]
  | a :: as => if x ≤ a then x :: a :: as else a :: insI x as
noncomputable def sortI : List Int → List Int
  | [] => []
  | x :: xs => insI x (sortI xs)
theorem insI_perm (x : Int) : ∀ l, (insI x l).Perm (x :: l)
  | [] => List.Perm.refl _
  | a :: as => by
    unfold insI
    split
    · exact List.Perm.refl _
    · exact ((insI_perm x as).cons a).trans (List.Perm.swap x a as)
theorem sortI_perm : ∀ l, (sortI l).Perm l
  | [] => List.Perm.refl _
  | x :: xs => (insI_perm x (sortI xs)).trans ((sortI_perm xs).cons x)
theorem insI_sorted (x : Int) : ∀ {l : List Int}, l.Pairwise (· ≤ ·) → (insI x l).Pairwise (· ≤ ·)
  | [], _ => List.pairwise_singleton ..
  | a :: as, h => by
    obtain ⟨h1, h2⟩ := List.pairwise_cons.mp h
    unfold insI
    split
    · rename_i hx
      refine List.pairwise_cons.mpr ⟨fun b hb => ?_, h⟩
      rcases List.mem_cons.mp hb with rfl | hb
      · exact hx
      · exact Int.le_trans hx (h1 b hb)
    · rename_i hx
      refine List.pairwise_cons.mpr ⟨fun b hb => ?_, insI_sorted x h2⟩
      rcases List.mem_cons.mp ((insI_perm x as).mem_iff.mp hb) with rfl | hb
      · (first | lia | omega)
      · exact h1 b hb
theorem sortI_sorted : ∀ l, (sortI l).Pairwise (· ≤ ·)
  | [] => List.Pairwise.nil
  | x :: xs => insI_sorted x (sortI_sorted xs)
theorem sorted_unique {l m : List Int} (hp : l.Perm m) (hs : l.Pairwise (· ≤ ·)) : l = sortI m :=
  List.Perm.eq_of_pairwise (le := (· ≤ ·)) (fun a b _ _ h1 h2 => Int.le_antisymm h1 h2) hs (sortI_sorted m) (hp.trans (sortI_perm m).symm)
noncomputable def sortedO : CF := fun as σ => match as with
  | [.ref id] => match σ[id]? with
    | some (.list xs) => match intsOf xs with
      | some ns => if xs.length < 64 then some (.ref σ.length, σ ++ [.list ((sortI ns).map .int)]) else none
      | none => none
    | _ => none
  | _ => none
section
variable {prog : Program} {w : World} {g : Heap} {k : Nat}
theorem ints_areS {φ : Nat → Addr} {n : Nat} {h : Heap} : ∀ {xs : List AV} {vs : List Value} {ns : List Int}, intsOf xs = some ns → Reps g φ n h xs vs → IntsAre vs ns
  | [], _, _, e, r => by (first | obtain ⟨rfl, rfl⟩ := Prod.mk.inj (Option.some.inj e) | cases e); (first | obtain ⟨_, rfl⟩ := r.intI | obtain ⟨_, rfl⟩ := r.strI | obtain rfl := r.nilI | obtain ⟨rfl, _⟩ := r.refI | cases r); exact .nil
  | x :: xs, _, ns, e, r => by
    cases x with
    | int i =>
      rw [intsOf] at e
      obtain ⟨ms, e1, e2⟩ := omap e
      subst e2
      obtain ⟨_, _, rfl, r1, r2⟩ := r.consI
      (first | obtain ⟨_, rfl⟩ := r1.intI | obtain ⟨_, rfl⟩ := r1.strI | obtain rfl := r1.nilI | obtain ⟨rfl, _⟩ := r1.refI | cases r1)
      exact .cons _ _ (ints_areS e1 r2)
    | _ => (first | obtain ⟨rfl, rfl⟩ := Prod.mk.inj (Option.some.inj e) | cases e)
theorem ints_reps {φ : Nat → Addr} {n : Nat} {h : Heap} : ∀ {vs : List Value} {ns : List Int}, IntsAre vs ns → Reps g φ n h (ns.map .int) vs := by
  intro vs ns hx
  induction hx with
  | nil => exact .nil
  | cons => rename_i ih; exact .cons (.int _ _) ih
theorem prim_sorted : PrimC prog w g k (.builtin "sorted") sortedO := by
  intro A s φ σ as vs hA R r av σ' e Q E h
  unfold sortedO at e
  split at e
  · rename_i id
    split at e
    · rename_i xs hx
      split at e
      · rename_i ns hns
        split at e
        · rename_i hl
          (first | obtain ⟨rfl, rfl⟩ := Prod.mk.inj (Option.some.inj e) | cases e)
          obtain ⟨_, rfl, r1⟩ := r.oneI
          obtain ⟨rfl, hid⟩ := r1.refI
          obtain ⟨v1, n1, h1, q1, _⟩ := R.lst hx
          refine sorted_ints (vs := v1) (ns := ns) ⟨_, h1, rfl, _, rfl⟩ (ints_areS hns q1) (by rw [q1.length]; exact hl) fun out ns' hI hp hs => ?_
          have e1 := sorted_unique hp hs
          subst e1
          obtain ⟨ex, hat⟩ := sortedAll_at s.heap v1 out
          have hA' : s.heap.get? (s.heap.objs.size + 1) = none := by
            cases e : s.heap.get? (s.heap.objs.size + 1) with
            | none => rfl
            | some o => exact absurd (Heap.lt_size e) (Nat.not_lt.mpr (Nat.le_succ _))
          have X := Ext.made (ao := .list ((sortI ns).map .int)) (ob := lstObj out.toList ex) R (fun b o hb => sortedAll_old hb) hA' (by rw [hat]) (.list (ints_reps hI))
          have rr := Rep.ref (g := g) (φ := φput φ σ.length (s.heap.objs.size + 1)) (n := (σ ++ [AO.list ((sortI ns).map .int)]).length) (h := sortedAll s.heap v1 out) σ.length (by simp)
          rw [φput_new] at rr
          exact h _ _ s.toks _ X rr
        · (first | obtain ⟨rfl, rfl⟩ := Prod.mk.inj (Option.some.inj e) | cases e)
      · (first | obtain ⟨rfl, rfl⟩ := Prod.mk.inj (Option.some.inj e) | cases e)
    · (first | obtain ⟨rfl, rfl⟩ := Prod.mk.inj (Option.some.inj e) | cases e)
  · (first | obtain ⟨rfl, rfl⟩ := Prod.mk.inj (Option.some.inj e) | cases e)

/-! list.index of a str -/
noncomputable def idxO : MF := fun a as σ => match a, as with
  | .ref id, [.str x] => match σ[id]? with
    | some (.list xs) => match strsOf xs with
      | some ss => if xs.length ≤ 65536 then (ss.findIdx? fun m => m.cps.toList == x.cps.toList).map fun j => (.int (j : Nat), σ) else none
      | none => none
    | _ => none
  | _, _ => none
theorem strsOf_get : ∀ {xs : List AV} {ss : List Str}, strsOf xs = some ss → xs = ss.map .str
  | [], _, e => by (first | obtain ⟨rfl, rfl⟩ := Prod.mk.inj (Option.some.inj e) | cases e); rfl
  | x :: xs, ss, e => by
    cases x with
    | str s =>
      rw [strsOf] at e
      obtain ⟨ms, e1, e2⟩ := omap e
      subst e2
      rw [strsOf_get e1]
      rfl
    | _ => (first | obtain ⟨rfl, rfl⟩ := Prod.mk.inj (Option.some.inj e) | cases e)
theorem prim_index : PrimM prog w g k "index" "list.index" okL idxO := by
  refine ⟨get_list PySem.F.slot_list_index PySem.F.type_list_index, ?_⟩
  intro A s φ σ a as va vs hA R ra r av σ' e Q E h
  unfold idxO at e
  split at e
  · rename_i id x
    split at e
    · rename_i xs hx
      split at e
      · rename_i ss hss
        split at e
        · rename_i hl
          obtain ⟨j, e1, e2⟩ := omap e
          cases e2
          obtain ⟨rfl, hid⟩ := ra.refI
          obtain ⟨_, rfl, r1⟩ := r.oneI
          (first | obtain ⟨_, rfl⟩ := r1.intI | obtain ⟨_, rfl⟩ := r1.strI | obtain rfl := r1.nilI | obtain ⟨rfl, _⟩ := r1.refI | cases r1)
          obtain ⟨v1, n1, h1, q1, _⟩ := R.lst hx
          have p := strs_paired hss q1
          obtain ⟨hj, hp, hno⟩ := List.findIdx?_eq_some_iff_getElem.mp e1
          have hxs := strsOf_get hss
          have hlen : v1.length = ss.length := by rw [q1.length, hxs, List.length_map]
          have key : ∀ m (hm : m < v1.toArray.size) (hm2 : m < ss.length), isStrV x v1.toArray[m] = (ss[m].cps.toList == x.cps.toList) := fun m hm hm2 => by
            have hg : xs[m]? = some (.str ss[m]) := by rw [hxs, List.getElem?_map, List.getElem?_eq_getElem hm2]; rfl
            obtain ⟨v, hv, rv⟩ := q1.get hg
            have ev : v1.toArray[m] = v := by
              have := (List.getElem?_eq_some_iff.mp hv).2
              simpa using this
            rw [ev]
            (first | obtain ⟨_, rfl⟩ := rv.intI | obtain ⟨_, rfl⟩ := rv.strI | obtain rfl := rv.nilI | obtain ⟨rfl, _⟩ := rv.refI | cases rv)
            rfl
          have hjs : j < v1.toArray.size := by rw [List.size_toArray, hlen]; exact hj
          refine call_meets PySem.F.slot_list_index ⟨_, h1, rfl⟩ PySem.F.entry_list_index (PySem.F.args_list_index_2 _ _) (MeetsSeq.list_index _ v1.toArray n1 _ (isStrV x) (fun y hy => mem_str p y (by simpa using hy)) j hjs (by
            have : xs.length = ss.length := by rw [hxs, List.length_map]
            (first | lia | omega)) ((key j hjs hj).trans hp) fun m hm hmj => ?_) ⟨h1, ?_⟩
          · rw [key m hm (by (first | lia | omega))]
            simpa using hno m hmj
          · exact h _ s.heap (s.toks + 1) φ (Ext.refl R) (.int _ _)
        · (first | obtain ⟨rfl, rfl⟩ := Prod.mk.inj (Option.some.inj e) | cases e)
      · (first | obtain ⟨rfl, rfl⟩ := Prod.mk.inj (Option.some.inj e) | cases e)
    · (first | obtain ⟨rfl, rfl⟩ := Prod.mk.inj (Option.some.inj e) | cases e)
  · (first | obtain ⟨rfl, rfl⟩ := Prod.mk.inj (Option.some.inj e) | cases e)
end
end Mine
end
section
set_option maxRecDepth 100000
namespace Mine

/-! the text's defs, by their place -/
noncomputable def stAt (p : Program) (i : Nat) : Stmt := (p.main.body[i]?).getD (.Pass default)
noncomputable def bodyOf : Stmt → List Stmt
  | .FunctionDef _ _ b _ _ _ _ _ _ _ => b
  | _ => []
noncomputable def scopeOf : Stmt → Scope
  | .FunctionDef _ _ _ _ _ _ s _ _ _ => s
  | _ => default
noncomputable def namesOf (st : Stmt) : List (Str × NameKind) := (scopeOf st).names

theorem inter_false {nms env} (eo : EnvOK nms env) : interactive env = false := by
  unfold interactive
  rw [eo.kind]
  rfl

noncomputable def capB (nm cnm : List Str) (cap : List (Option Nat)) (names : List (Str × NameKind)) : Bool := (List.range cap.length).all fun j => match cap[j]? with
  | some (some i) => (match cnm[j]?, nm[i]? with
    | some x, some y => x == y && names.lookup x == some .free
    | _, _ => false)
  | _ => true
noncomputable def compB (nms : List (Str × NameKind)) (nm : List Str) (scope : Scope) (cnm : List Str) (cap : List (Option Nat)) (xs : List Str) : Bool :=
  scope.kind == .function && decide ((scope.names.map (·.1)).Nodup) && scope.names.all (fun x => x.2 != .local || scope.names.lookup x.1 == some .local) && scope.names.all (fun x => x.2 != .free || nms.lookup x.1 == some .cell) && capB nm cnm cap scope.names && xs.all fun x => scope.names.lookup x == some .local || scope.names.lookup x == some .cell
theorem CompOK.of {nms nm scope cnm cap xs} (h : compB nms nm scope cnm cap xs = true) : CompOK nms nm scope cnm cap xs := by
  unfold compB at h
  simp only [Bool.and_eq_true] at h
  obtain ⟨⟨⟨⟨⟨h1, h2⟩, h3⟩, h4⟩, h5⟩, h6⟩ := h
  refine ⟨eq_of_beq h1, of_decide_eq_true h2, fun x hx hc => ?_, fun x hx hc => ?_, fun j i hj => ?_, fun x hx => ?_⟩
  · have := List.all_eq_true.mp h3 x hx
    rw [hc] at this
    simpa using this
  · have := List.all_eq_true.mp h4 x hx
    rw [hc] at this
    simpa using this
  · unfold capB at h5
    have hlt : j < cap.length := (List.getElem?_eq_some_iff.mp hj).1
    have := List.all_eq_true.mp h5 j (List.mem_range.mpr hlt)
    rw [hj] at this
    dsimp only at this
    split at this
    · rename_i x y e1 e2
      rw [Bool.and_eq_true] at this
      have exy := eq_of_beq this.1
      subst exy
      exact ⟨x, e1, e2, by simpa using this.2⟩
    · cases this
  · have := List.all_eq_true.mp h6 x hx
    simpa using this

section
variable {prog : Program} {w : World} {g : Heap} {k : Nat} {nms : List (Str × NameKind)} {nm : List Str}

theorem PrimC.up {k k' : Nat} {f : Value} {op : CF} (h : PrimC prog w g k f op) (hk : k ≤ k') : PrimC prog w g k' f op :=
  fun A s φ σ as vs hA R r => h A s φ σ as vs (hA.mono hk) R r
theorem PrimK.up {k k' : Nat} {f : Value} {kn : Str} {op : KF} (h : PrimK prog w g k f kn op) (hk : k ≤ k') : PrimK prog w g k' f kn op :=
  fun A s φ σ as vs b vb hA R r q => h A s φ σ as vs b vb (hA.mono hk) R r q

noncomputable def negO : UF := fun a σ => match a with | .int x => some (.int (-x), σ) | _ => none
theorem prim_neg : PrimU prog w g k (unaryOp .USub) negO := by
  intro A s φ σ a va hA R r av σ' e Q E h
  unfold negO at e
  split at e
  · (first | obtain ⟨rfl, rfl⟩ := Prod.mk.inj (Option.some.inj e) | cases e)
    (first | obtain ⟨_, rfl⟩ := r.intI | obtain ⟨_, rfl⟩ := r.strI | obtain rfl := r.nilI | obtain ⟨rfl, _⟩ := r.refI | cases r)
    exact PyProof.Rows.neg_int (h _ s.heap _ φ (Ext.refl R) (.int _ _))
  · (first | obtain ⟨rfl, rfl⟩ := Prod.mk.inj (Option.some.inj e) | cases e)

theorem sims_assignE {x : Str} {px pos : Pos} {e : Expr} (i : Nat) {f : EF} (h1 : SimE prog w g k nms nm e f) (hx : nm[i]? = some x) (hk : stKind nms x = true) (hnd : nm.Nodup)
    (hs : ∀ env, EnvOK nms env → swapsWith e (some (.Name x px)) pos.line env = pure false) : SimS prog w g k nms nm (.Assign [.Name x px] e pos) (asgS i f) := by
  intro env A s φ ρ σ eo hA R F fl ρ' σ' e Q E h
  obtain ⟨⟨a, σ1⟩, e1, e⟩ := obind e
  (first | obtain ⟨rfl, rfl⟩ := Prod.mk.inj (Option.some.inj e) | cases e)
  refine wpAny_Assign_Name (h1 env A s φ ρ σ eo hA R F a _ e1 _ _ fun v h₁ tk₁ φ₁ X₁ r₁ => ?_) (hs env eo)
  exact sim_store eo X₁.rel (F.ext X₁) r₁ hx hk hnd (List.mem_singleton_self x) fun h₂ tk₂ X₂ F₂ => h _ h₂ tk₂ φ₁ ((X₁.toW F.wk).trans (X₂.up (F.ext X₁).wk)) .next F₂

/-- the comprehension that is stored in a local name of its line -/
noncomputable def swapB (nms : List (Str × NameKind)) (x : Str) (sc : Scope) (px vp : Pos) : Bool := nms.lookup x == some .local && px.line == vp.line && !(sc.names.any fun (n, k) => n == x && (k == .local || k == .cell))
theorem swaps_of {env} {x : Str} {px vp : Pos} {elt : Expr} {gs : List Comprehension} {sc : Scope} {l : Nat} (eo : EnvOK nms env) : swapsWith (.ListComp elt gs sc vp) (some (.Name x px)) l env = pure (swapB nms x sc px vp) := by
  unfold swapsWith swapB
  have h1 : env.blockKind = .function := by unfold Env.blockKind; rw [eo.kind]; rfl
  have h2 : env.kindOf x = nms.lookup x := by unfold Env.kindOf; rw [eo.names]
  simp only [h1, h2]
  rfl
end
end Mine
end
section
set_option maxRecDepth 100000
namespace Mine
section
variable {prog : Program} {w : World} {g : Heap} {k : Nat} {nms : List (Str × NameKind)} {nm : List Str}

/-! functions with defaults -/
noncomputable def fillF (n nl : Nat) (bf : SF) (fill : List AV) : CF := fun as σ => if as.length = n then callF nl bf (as ++ fill) σ else none
noncomputable def fillK (n nl : Nat) (bf : SF) : KF := fun as b σ => if as.length = n then callF nl bf (as ++ [b]) σ else none
/-- plain values stand for themselves in every heap -/
noncomputable def Plain2 (fill : List AV) (ws : List Value) : Prop := ∀ (g : Heap) φ n h, Reps g φ n h fill ws
theorem prim_fnD {a : Addr} {fd : FuncData} {body : List Stmt} {params locs : List Str} {bf : SF} (n : Nat) {fill : List AV} (fn : FnOK g a fd body nms params) (hs : SimSs prog w g k nms nm body bf) (hnm : nm = params ++ locs) (hnd : nm.Nodup) (nl : Nat)
    (hp : params.length = n + fill.length) (hb : ∀ (s : Shared) (vs : List Value), (∀ b o, g.get? b = some o → s.heap.get? b = some o) → vs.length = n → ∃ ws, BindsTo s fd ⟨vs, []⟩ (params.zip (vs ++ ws)) ∧ Plain2 fill ws) :
    PrimC prog w g (k + 1) (.ref a) (fillF n nl bf fill) := by
  intro A s φ σ as vs hA R hr av σ' e Q E h
  unfold fillF at e
  split at e
  · rename_i hl
    obtain ⟨ws, h1, h2⟩ := hb s vs R.base (hr.length.trans hl)
    exact run_fn (args := ⟨vs, []⟩) fn h1 (hr.append (h2 g φ σ.length s.heap)) (by rw [List.length_append, hl, hp]) hnm hnd hs hA R e h
  · (first | obtain ⟨rfl, rfl⟩ := Prod.mk.inj (Option.some.inj e) | cases e)
theorem prim_fnK {a : Addr} {fd : FuncData} {body : List Stmt} {params locs : List Str} {bf : SF} {kn : Str} (n : Nat) (fn : FnOK g a fd body nms params) (hs : SimSs prog w g k nms nm body bf) (hnm : nm = params ++ locs) (hnd : nm.Nodup) (nl : Nat)
    (hp : params.length = n + 1) (hb : ∀ (s : Shared) (vs : List Value) (v : Value), (∀ b o, g.get? b = some o → s.heap.get? b = some o) → vs.length = n → BindsTo s fd ⟨vs, [(kn, v)]⟩ (params.zip (vs ++ [v]))) :
    PrimK prog w g (k + 1) (.ref a) kn (fillK n nl bf) := by
  intro A s φ σ as vs b vb hA R hr rb av σ' e Q E h
  unfold fillK at e
  split at e
  · rename_i hl
    exact run_fn (args := ⟨vs, [(kn, vb)]⟩) fn (hb s vs vb R.base (hr.length.trans hl)) (hr.append (.cons rb .nil)) (by rw [List.length_append, hl, hp]; rfl) hnm hnd hs hA R e h
  · (first | obtain ⟨rfl, rfl⟩ := Prod.mk.inj (Option.some.inj e) | cases e)
theorem plain_0nn (t : Tok) : Plain2 [.int 0, .con .none] [.int 0 t, .none] := fun _ _ _ _ => .cons (.int _ _) (.cons (.con _) .nil)
theorem plain_0nnn (t : Tok) : Plain2 [.int 0, .con .none, .con .none] [.int 0 t, .none, .none] := fun _ _ _ _ => .cons (.int _ _) (.cons (.con _) (.cons (.con _) .nil))
theorem plain_n : Plain2 [.con .none] [.none] := fun _ _ _ _ => .cons (.con _) .nil
noncomputable def plainF (n nl : Nat) (bf : SF) : CF := fun as σ => if as.length = n then callF nl bf as σ else none
theorem prim_fnP {a : Addr} {fd : FuncData} {body : List Stmt} {params locs : List Str} {bf : SF} (n : Nat) (fn : FnOK g a fd body nms params) (hs : SimSs prog w g k nms nm body bf) (hnm : nm = params ++ locs) (hnd : nm.Nodup) (nl : Nat)
    (hp : params.length = n) (hb : ∀ vs : List Value, vs.length = n → bindArgs fd ⟨vs, []⟩ = pure (params.zip vs)) : PrimC prog w g (k + 1) (.ref a) (plainF n nl bf) := by
  subst hp
  exact prim_fn fn hs hnm hnd nl hb

/-! a pair of names from a pair -/
noncomputable def ixorO : BF := fun a b σ => match a, b with | .int x, .int y => some (.int (Builtin.bitXor x y), σ) | _, _ => none

noncomputable def starB : Expr → Bool
  | .Starred .. => true
  | _ => false
theorem pos_name (x : Str) (p : Pos) : (Expr.Name x p).pos = p := rfl
noncomputable def unswB (nms : List (Str × NameKind)) (x y : Str) (v1 v2 : Expr) : Bool := !(nms.lookup x == some .local && nms.lookup y == some .local) && !starB v1 && !starB v2
theorem unswapped_of {x y : Str} {px py tp vp : Pos} {kk kv : Nat} {v1 v2 : Expr} (h : unswB nms x y v1 v2 = true) : ∀ env, EnvOK nms env →
    swappedStores [.Tuple [.Name x px, .Name y py] kk tp] (.Tuple [v1, v2] kv vp) env = pure none := by
  intro env eo
  have h1 : env.blockKind = .function := by unfold Env.blockKind; rw [eo.kind]; rfl
  have h2 : ∀ x, env.kindOf x = nms.lookup x := fun x => by unfold Env.kindOf; rw [eo.names]
  unfold unswB at h
  simp only [Bool.and_eq_true, Bool.not_eq_true'] at h
  obtain ⟨⟨h, a5⟩, a6⟩ := h
  rw [Bool.and_eq_false_iff, beq_eq_false_iff_ne, beq_eq_false_iff_ne] at h
  unfold swappedStores
  have hn : ∀ l : Nat, ([Expr.Name x px, Expr.Name y py].filterMap fun
      | .Name id pos => if env.kindOf id == some .local && pos.line == l then some id else none
      | _ => none).length ≠ 2 := by
    intro l hl
    simp only [List.filterMap_cons, List.filterMap_nil, h2] at hl
    rcases h with h | h
    · have e : (List.lookup x nms == some NameKind.local && px.line == l) = false := by simp [h]
      simp only [e, Bool.false_eq_true, if_false] at hl
      split at hl <;> simp at hl
    · have e : (List.lookup y nms == some NameKind.local && py.line == l) = false := by simp [h]
      simp only [e, Bool.false_eq_true, if_false] at hl
      split at hl <;> simp at hl
  have hn' := hn px.line
  simp [h1, pos_name]
  intro _ _ h3
  exfalso
  revert hn'
  simp at h3 ⊢
  exact h3
theorem star_tup (ts : List Expr) (kk : Nat) (pos : Pos) (es : List Expr) (env : Env) : starEach (.Tuple ts kk pos :: es) env = (false, eval (.Tuple ts kk pos) env) :: starEach es env := rfl
noncomputable def intsC : List Expr → Option (List Int)
  | [] => some []
  | .Constant (.int i) _ _ :: r => (intsC r).map (i :: ·)
  | _ => none
noncomputable def cIntsEs (ns : List Int) : EFs := fun _ σ => some (ns.map .int, σ)
theorem sims_ints : ∀ {es : List Expr} {ns : List Int}, intsC es = some ns → SimEs prog w g k nms nm es (cIntsEs ns)
  | [], _, h => by cases h; exact sims_nil
  | e :: es, ns, h => by
    unfold intsC at h
    split at h
    · rename_i h0; cases h0
    · rename_i i _ _ r h0
      injection h0 with h1 h2
      subst h1 h2
      obtain ⟨ms, e1, e2⟩ := omap h
      subst e2
      exact sims_cons sim_int (sims_ints e1) fun _ => rfl
    · cases h
noncomputable def intsCC : List Expr → Option (List (List Int))
  | [] => some []
  | .Tuple es _ _ :: r => (intsC es).bind fun ns => if ns.length ≤ 65536 then (intsCC r).map (ns :: ·) else none
  | _ => none
noncomputable def cIntss (nss : List (List Int)) : EFs := fun _ σ => some (nss.map (fun ns => .tup (ns.map .int)), σ)
theorem sims_intss : ∀ {es : List Expr} {nss : List (List Int)}, intsCC es = some nss → SimEs prog w g k nms nm es (cIntss nss)
  | [], _, h => by cases h; exact sims_nil
  | e :: es, nss, h => by
    unfold intsCC at h
    split at h
    · rename_i h0; cases h0
    · rename_i ts kk pos r h0
      injection h0 with h1 h2
      subst h1 h2
      obtain ⟨ns, e1, e2⟩ := obind h
      split at e2
      · rename_i hl
        obtain ⟨ms, e3, e4⟩ := omap e2
        subst e4
        have hf : tupE (cIntsEs ns) = valE (.tup (ns.map .int)) := by
          funext ρ σ
          show (if (ns.map AV.int).length ≤ 65536 then some (AV.tup (ns.map .int), σ) else none) = _
          rw [if_pos (by rw [List.length_map]; exact hl)]
          rfl
        have h3 : SimE prog w g k nms nm (.Tuple ts kk pos) (valE (.tup (ns.map .int))) := hf ▸ sim_tup (sims_ints e1)
        exact sims_cons h3 (sims_intss e3) fun env => star_tup _ _ _ _ env
      · cases e2
    · cases h
theorem sim_sub_get {v i : Expr} {pos : Pos} {f1 f2 : EF} (h1 : SimE prog w g k nms nm v f1) (h2 : SimE prog w g k nms nm i f2) (hs : ∀ o x, subscripted i false o x = operate [o, x] (getItem o x)) :
    SimE prog w g k nms nm (.Subscript v i pos) (binE getO f1 f2) := sim_sub h1 h2 (prim_get hs)
end
end Mine
end
section
set_option maxRecDepth 100000
namespace Mine

/-! a loop over zip of two lists, where no tuple is held -/
/-- a change of objects that are no part of a flat state -/
structure OffF (g : Heap) (φ : Nat → Addr) (n : Nat) (J : List Addr) : Prop where
  ne : ∀ j ∈ J, ∀ id, id < n → φ id ≠ j
  base : ∀ j ∈ J, g.get? j = none
structure ZipOK (g : Heap) (φ : Nat → Addr) (n : Nat) (h : Heap) (z TI TO i1 i2 : Addr) (id1 id2 i : Nat) : Prop where
  lt1 : id1 < n
  lt2 : id2 < n
  iz : IsZip h z TI TO .none
  ti : IsPair h TI (.ref i1) (.ref i2)
  to : ∃ a b, IsPair h TO a b
  l1 : h.IsListIter i1 (φ id1) i
  l2 : h.IsListIter i2 (φ id2) i
  zTI : TI ≠ z
  zTO : TO ≠ z
  zi1 : i1 ≠ z
  zi2 : i2 ≠ z
  tt : TI ≠ TO
  t1 : TI ≠ i1
  t2 : TI ≠ i2
  o1 : TO ≠ i1
  o2 : TO ≠ i2
  i12 : i1 ≠ i2
section
variable {prog : Program} {w : World} {g : Heap} {k : Nat} {nms : List (Str × NameKind)} {nm : List Str}

end
end Mine
end
section
set_option maxRecDepth 100000
namespace Mine

/-! a call with one list of ints, in a state of its own -/
section
variable {prog : Program} {w : World} {g : Heap} {k : Nat}
/-- the heap without one object -/
noncomputable def without (h : Heap) (a : Addr) : Heap := h.update a fun o => { o with data := .freed }
theorem without_other {h : Heap} {a b : Addr} (hb : b ≠ a) : (without h a).get? b = h.get? b := Heap.get?_update_other _ _ (Ne.symm hb)
theorem without_self {h : Heap} {a : Addr} : (without h a).get? a = none := by
  unfold without
  cases h with
  | mk objs l =>
    simp only [Heap.update, Heap.get?, Array.getElem?_modify, if_true]
    cases objs[a]? <;> rfl
end
end Mine
end
section
set_option maxRecDepth 100000
namespace Mine

/-! contexts without a decoder under way -/
noncomputable def badIds : List String := ["bytearray.__contains__", "bytearray.__mod__", "bytearray.__rmod__", "_struct.pack_into.held", "bytearray.find.held"] ++ Builtin.Bytes.decodersThatHold
noncomputable def Bad (c : Code) : Bool := match c with
  | .builtin id _ => badIds.contains id
  | _ => false
noncomputable def CleanL (l : List (Code × Pos)) : Prop := ∀ x ∈ l, Bad x.1 = false
noncomputable def Clean (Γ : PySem.Ctx) : Prop := Bad Γ.code = false ∧ CleanL Γ.below
noncomputable def wpC {α : Type} (M : Model) (A : Around) (t : Sem α) (Q : α → Shared → Prop) (E : Value → Shared → Prop) (s : Shared) : Prop :=
  ∀ Γ p, Γ.In A → Clean Γ → Sem.wp M Γ t (fun a _ s' => Q a s') (fun e _ s' => E e s') p s
noncomputable def codeC (M : Model) (A : Around) (c : Code) (R : Result → Shared → Prop) (s : Shared) : Prop :=
  ∀ Γ p, Γ.code = c → Γ.Below A → CleanL Γ.below → wpCode M Γ R p s
section
variable {α β : Type} {M : Model} {A : Around} {E : Value → Shared → Prop} {s : Shared}
theorem wpC_of {t : Sem α} {Q : α → Shared → Prop} (h : wpAny M A t Q E s) : wpC M A t Q E s := fun Γ p hΓ _ => h Γ p hΓ
theorem wpC_bind {m : Sem α} {f : α → Sem β} {Q : β → Shared → Prop} (h : wpC M A m (fun a s' => wpC M A (f a) Q E s') E s) : wpC M A (m >>= f) Q E s := fun Γ p hΓ hC => by
  rw [Sem.wp_bind']
  exact Sem.wp_mono M Γ m (fun a p' s' h' => h' Γ p' hΓ hC) (fun _ _ _ h' => h') p s (h Γ p hΓ hC)
theorem wpC_mono {t : Sem α} {Q Q' : α → Shared → Prop} {E' : Value → Shared → Prop} (h : wpC M A t Q E s) (hQ : ∀ a s, Q a s → Q' a s) (hE : ∀ e s, E e s → E' e s) : wpC M A t Q' E' s :=
  fun Γ p hΓ hC => Sem.wp_mono M Γ t (fun a _ s => hQ a s) (fun e _ s => hE e s) p s (h Γ p hΓ hC)
theorem wpC_pure {a : α} {Q : α → Shared → Prop} (h : Q a s) : wpC M A (pure a) Q E s := fun _ _ _ _ => h
theorem wpC_holding {vs : List Value} {m : Sem α} {Q : α → Shared → Prop} (h : wpC M A m Q E s) : wpC M A (holding vs m) Q E s := fun Γ p hΓ hC => by rw [Sem.wp_holding]; exact h Γ p hΓ hC
theorem wpC_onRaise {m : Sem α} {k : Value → Sem Unit} {Q : α → Shared → Prop} (h : wpC M A m Q (fun e s' => wpC M A (k e) (fun _ s'' => E e s'') E s') s) : wpC M A (m.onRaise k) Q E s := fun Γ p hΓ hC => by
  rw [Sem.wp_onRaise]
  exact Sem.wp_mono M Γ m (fun _ _ _ h' => h') (fun e p' s' h' => h' Γ p' hΓ hC) p s (h Γ p hΓ hC)
/-- a step of the library ahead -/
theorem wpC_step {m : Sem α} {f : α → Sem β} {Q : β → Shared → Prop} (h : wpAny M A m (fun a s' => wpC M A (f a) Q E s') E s) : wpC M A (m >>= f) Q E s := wpC_bind (wpC_of h)
theorem wpC_ite {c : Prop} [Decidable c] {a b : Sem α} {Q : α → Shared → Prop} (h : if c then wpC M A a Q E s else wpC M A b Q E s) : wpC M A (if c then a else b) Q E s := by split <;> simp_all
theorem codeC_of_tree {c : Code} {R : Result → Shared → Prop} (hb : Bad c = false)
    (h : wpC M (A.under c) (M.den c) (fun fin s' => match fin with | .done f => R (.ok f) s' | .again c' => c'.quiet = true ∧ codeC M A c' R s') (fun e s' => R (.error e) s') s) : codeC M A c R s := fun Γ p hc hΓ hC => by
  rw [wpCode_iff_wp, hc]
  refine Sem.wp_mono M Γ _ (fun fin p' s' h' => ?_) (fun _ _ _ h' => h') p s (h Γ p (hc ▸ hΓ.in) ⟨by rw [hc]; exact hb, hC⟩)
  cases fin with
  | done f => exact h'
  | again c' => exact ⟨h'.1, h'.2 (Γ.goto c') p' rfl (hΓ.goto c') hC⟩
theorem Clean.enter {Γ : PySem.Ctx} (hC : Clean Γ) (c : Code) (h : Option Value) (p : Pos) : CleanL (Γ.enter c h p).below := fun x hx => by
  rcases List.mem_cons.mp hx with rfl | hx
  · exact hC.1
  · exact hC.2 x hx
theorem wpC_runValue {c : Code} {Q : Value → Shared → Prop}
    (hc : codeC M A c (fun r s' => match r with | .ok (.ret v) => Q v s' | .ok _ => False | .error e => E e s') s) : wpC M A (runValue c) Q E s := fun Γ p hΓ hC => by
  rw [Sem.wp_runValue]
  exact hc _ p rfl (hΓ.enter c none p (by intro x; cases x)) (hC.enter c none p)
theorem wpC_call {f : Value} {pos : List Value} {kw : List (Str × Value)} {Q : Value → Shared → Prop}
    (hc : codeC M A (.call f ⟨pos, kw⟩) (fun r s' => match r with | .ok (.ret v) => Q v s' | .ok _ => False | .error e => E e s') s) : wpC M A (call f pos kw) Q E s := wpC_runValue hc
theorem wpC_execs_cons {env : Env} {st : Stmt} {rest : List Stmt} {Q : Flow → Shared → Prop}
    (h : wpC M A (exec st env) (fun f s' => match f with | .next => wpC M A (execs rest env) Q E s' | f => Q f s') E s) : wpC M A (execs (st :: rest) env) Q E s := fun Γ p hΓ hC => by
  rw [execs_cons, Sem.wp_bind']
  refine Sem.wp_mono M Γ _ (fun f p' s' h' => ?_) (fun _ _ _ h' => h') _ _ (h Γ p hΓ hC)
  cases f <;> first | exact h' Γ p' hΓ hC | exact h'
end
section
variable {prog : Program} {w : World} {A : Around} {E : Value → Shared → Prop} {s : Shared}
theorem codeC_func {body : List Stmt} {env : Env} {R : Result → Shared → Prop}
    (h : wpC (model prog w) (A.deeper env) (execs body env) (fun f s' => R (.ok (.ret (match f with | .ret v => v | _ => .none))) s')
      (fun e s' => wpC (model prog w) (A.deeper env) (leaving env e) (fun _ s'' => R (.error e) s'') (fun e' s'' => R (.error e') s'') s') s) : codeC (model prog w) A (.func body env) R s := by
  refine codeC_of_tree rfl ?_
  show wpC _ (A.deeper env) (do point; match ← (execs body env).onRaise (leaving env) with | .ret v => ret v | _ => ret .none) _ _ s
  refine wpC_step (wpAny_point (wpC_bind (wpC_onRaise (wpC_mono h (fun f s' h' => ?_) fun _ _ h' => h'))))
  cases f <;> exact wpC_pure h'
theorem codeC_call_function {a : Addr} {args : Args} {o : Obj} {fd : FuncData} {body : List Stmt} {R : Result → Shared → Prop} (hroom : A.depth < recursionLimit)
    (ho : s.heap.get? a = some o)
    (hd' : o.data = .func fd) (hco : fd.scope.isCoroutine = false) (hgen : fd.scope.isGenerator = false) (hbody : fd.body = .stmts body) (hcd : s.heap.CodeRec fd.code fd.qualname)
    (h : wpAny (model prog w) A.in1 (bindArgs fd args) (fun binds s₁ =>
      wpAny (model prog w) A.in1 (newFunctionEnv fd.scope fd.globals fd.closure binds (fd.qualname ++ ".<locals>.") (some a) fd.code none fd.builtins)
        (fun env s₂ => s₂.heap.NoLimit ∧ codeC (model prog w) A (.func body env) R s₂) (fun e s' => R (.error e) s') s₁) (fun e s' => R (.error e) s') s) :
    codeC (model prog w) A (.call (.ref a) args) R s := by
  refine codeC_of_tree rfl (wpC_of ?_)
  show wpAny _ A.in1 (callAny (.ref a) args) _ _ s
  simp only [callAny]
  refine wpAny_bind (wpAny_load ho ?_)
  obtain ⟨c, oc, vs, tq, hc, hoc, hdc, hq⟩ := hcd
  simp only [hd', callFunction, hco, hgen, hbody, hc]
  rw [hc] at h
  refine wpAny_bind (m := field (.ref c) 1) (wpAny_field hoc hdc hq (wpAny_bind (wpAny_pure ?_)))
  exact wpAny_bind (wpAny_mono h (fun binds s₁ h₁ => wpAny_bind (wpAny_mono h₁ (fun env s₂ h₂ => wpAny_bind (wpAny_enterFrame h₂.1 hroom
    (wpAny_pure (And.intro rfl h₂.2)))) fun _ _ h' => h')) fun _ _ h' => h')
end

/-! statements, calls -/
section
variable {prog : Program} {w : World} {g : Heap} {k : Nat} {nms : List (Str × NameKind)} {nm : List Str}
variable (prog w g) in
noncomputable def RunsSC (nm : List Str) (env : Env) (A : Around) (s : Shared) (φ : Nat → Addr) (σ : St) (t : Sem Flow) (r : Option (Fl × Fm × St)) : Prop :=
  ∀ fl ρ' σ', r = some (fl, ρ', σ') → ∀ (Q : Flow → Shared → Prop) (E : Value → Shared → Prop),
    (∀ flc h' tk φ', ExtW g (envW env) φ σ s.heap φ' σ' h' → FlRep g φ' σ'.length h' fl flc → FrameOK g nm env φ' σ'.length h' ρ' → Q flc { s with heap := h', toks := tk }) → wpC (model prog w) A t Q E s
variable (prog w g) in
noncomputable def SimSC (k : Nat) (nms : List (Str × NameKind)) (nm : List Str) (st : Stmt) (f : SF) : Prop :=
  ∀ env A s φ ρ σ, EnvOK nms env → Rm A k → Rel g φ σ s.heap → FrameOK g nm env φ σ.length s.heap ρ → RunsSC prog w g nm env A s φ σ (exec st env) (f ρ σ)
variable (prog w g) in
noncomputable def SimSsC (k : Nat) (nms : List (Str × NameKind)) (nm : List Str) (sts : List Stmt) (f : SF) : Prop :=
  ∀ env A s φ ρ σ, EnvOK nms env → Rm A k → Rel g φ σ s.heap → FrameOK g nm env φ σ.length s.heap ρ → RunsSC prog w g nm env A s φ σ (execs sts env) (f ρ σ)
theorem SimS.toC {st : Stmt} {f : SF} (h : SimS prog w g k nms nm st f) : SimSC prog w g k nms nm st f :=
  fun env A s φ ρ σ eo hA R F fl ρ' σ' e Q E hq => wpC_of (h env A s φ ρ σ eo hA R F fl ρ' σ' e Q E hq)
theorem SimSs.toC {st : List Stmt} {f : SF} (h : SimSs prog w g k nms nm st f) : SimSsC prog w g k nms nm st f :=
  fun env A s φ ρ σ eo hA R F fl ρ' σ' e Q E hq => wpC_of (h env A s φ ρ σ eo hA R F fl ρ' σ' e Q E hq)
theorem simssC_cons {st : Stmt} {sts : List Stmt} {f fs : SF} (h1 : SimSC prog w g k nms nm st f) (h2 : SimSsC prog w g k nms nm sts fs) : SimSsC prog w g k nms nm (st :: sts) (seqS f fs) := by
  intro env A s φ ρ σ eo hA R F fl ρ' σ' e Q E h
  obtain ⟨⟨c, ρ1, σ1⟩, e1, e⟩ := obind e
  refine wpC_execs_cons (h1 env A s φ ρ σ eo hA R F c ρ1 σ1 e1 _ _ fun flc h₁ tk₁ φ₁ X₁ r₁ F₁ => ?_)
  cases r₁ with
  | next => exact h2 env A _ φ₁ ρ1 σ1 eo hA X₁.rel F₁ fl ρ' σ' e _ _ fun flc h₂ tk₂ φ₂ X₂ r₂ F₂ => h flc h₂ tk₂ φ₂ (X₁.trans X₂) r₂ F₂
  | brk => (first | obtain ⟨rfl, rfl⟩ := Prod.mk.inj (Option.some.inj e) | cases e); exact h _ h₁ tk₁ φ₁ X₁ .brk F₁
  | cont => (first | obtain ⟨rfl, rfl⟩ := Prod.mk.inj (Option.some.inj e) | cases e); exact h _ h₁ tk₁ φ₁ X₁ .cont F₁
  | ret r => (first | obtain ⟨rfl, rfl⟩ := Prod.mk.inj (Option.some.inj e) | cases e); exact h _ h₁ tk₁ φ₁ X₁ (.ret r) F₁
variable (prog w g k) in
noncomputable def PrimCC (f : Value) (op : CF) : Prop :=
  ∀ A s φ σ as vs, Rm A k → Rel g φ σ s.heap → Reps g φ σ.length s.heap as vs → ∀ av σ', op as σ = some (av, σ') → ∀ (Q E : Value → Shared → Prop),
    (∀ v h' tk φ', Ext g φ σ s.heap φ' σ' h' → Rep g φ' σ'.length h' av v → Q v { s with heap := h', toks := tk }) → wpC (model prog w) A (call f vs) Q E s
theorem PrimCC.up {k k' : Nat} {f : Value} {op : CF} (h : PrimCC prog w g k f op) (hk : k ≤ k') : PrimCC prog w g k' f op :=
  fun A s φ σ as vs hA R r => h A s φ σ as vs (hA.mono hk) R r
end
end Mine
end
section
set_option maxRecDepth 100000
namespace Mine
section
variable {prog : Program} {w : World} {g : Heap} {k : Nat} {nms : List (Str × NameKind)} {nm : List Str}

theorem wpC_keep {α : Type} {M : Model} {A : Around} {E : Value → Shared → Prop} {s : Shared} {vs : List Value} {m : Sem α} {Q : α → Shared → Prop} (h : wpC M A m Q E s) : wpC M A (m.keep vs) Q E s :=
  fun Γ p hΓ hC => by rw [Sem.wp_keep]; exact h Γ p hΓ hC
theorem callWithC_function {A s} {E : Value → Shared → Prop} {pos : Pos} {a : Addr} {o : Obj} {fd : FuncData} {first : List Value} {args : List (Bool × Sem Value)} {Q : Value → Shared → Prop}
    (h : wpAny (model prog w) A (evalArgs (.ref a) true args []) (fun x s₁ => (s₁.heap.get? a = some o ∧ o.data = .func fd) ∧ wpC (model prog w) A (call (.ref a) (first ++ x.pos) x.kw) Q E s₁) E s) :
    wpC (model prog w) A (callWith pos (.ref a) first args []) Q E s := by
  unfold callWith
  refine wpC_bind (wpC_of (wpAny_holding (wpAny_mono h (fun x s₁ h₁ => wpC_bind (wpC_of (wpAny_standAt ?_))) fun _ _ x => x)))
  have tail : ∀ {t : Sem Value}, wpC (model prog w) A t Q E s₁ → wpC (model prog w) A (t >>= fun r => holding [r] point >>= fun _ => pure r) Q E s₁ :=
    fun ht => wpC_bind (wpC_mono ht (fun r s₂ hr => wpC_bind (wpC_of (wpAny_holding (wpAny_point (wpC_pure hr))))) fun _ _ x => x)
  cases hs : args.any (·.1) <;> simp only [List.any_nil, Bool.or_false] <;>
    refine wpC_bind (m := keeperOf (.ref a)) (wpC_of ?_) <;> unfold keeperOf <;>
    refine wpAny_bind (wpAny_load h₁.1.1 ?_) <;> rw [h₁.1.2] <;> refine wpAny_pure ?_
  · first
      | refine wpC_ite ?_
      | skip
    split <;> first
      | exact tail h₁.2
      | exact tail (by unfold callMarked; exact wpC_keep h₁.2)
  · first
      | exact tail (by unfold callMarked; exact wpC_keep h₁.2)
      | exact tail h₁.2
theorem callWithC_type {A s} {E : Value → Shared → Prop} {pos : Pos} {T : String} {first : List Value} {args : List (Bool × Sem Value)} {Q : Value → Shared → Prop} (hplain : args.any (·.1) = false)
    (h : wpAny (model prog w) A (evalArgs (.type T) true args []) (fun a s₁ => wpC (model prog w) A (call (.type T) (first ++ a.pos) a.kw) Q E s₁) E s) :
    wpC (model prog w) A (callWith pos (.type T) first args []) Q E s := by
  unfold callWith
  refine wpC_bind (wpC_of (wpAny_holding (wpAny_mono h (fun a s₁ h₁ => wpC_bind (wpC_of (wpAny_standAt ?_))) fun _ _ x => x)))
  simp only [hplain, List.any_nil, Bool.or_false]
  refine wpC_bind (wpC_of (wpAny_pure ?_))
  exact wpC_bind (wpC_mono h₁ (fun r s₂ hr => wpC_bind (wpC_of (wpAny_holding (wpAny_point (wpC_pure hr))))) fun _ _ x => x)

/-- x = f(..), f a name of the globals -/
theorem simsC_assignF {x fnm : Str} {px fp cp ap : Pos} {a : Addr} {args : List Expr} {fs : EFs} {op : CF} {fd : FuncData} (i : Nat) (hk : nms.lookup fnm = some .globalImplicit) (hd : (fnm == ("__debug__" : Str)) = false) (hg : GlobIs g fnm (.ref a))
    (hf : ∃ o, g.get? a = some o ∧ o.data = .func fd) (h1 : SimEs prog w g k nms nm args fs) (pl : Plain args) (hp : PrimCC prog w g k (.ref a) op) (hx : nm[i]? = some x) (hkx : stKind nms x = true) (hnd : nm.Nodup)
    (hs : ∀ env, swapsWith (.Call (.Name fnm fp) args [] cp) (some (.Name x px)) ap.line env = pure false) : SimSC prog w g k nms nm (.Assign [.Name x px] (.Call (.Name fnm fp) args [] cp) ap) (asgS i (callE op fs)) := by
  intro env A s φ ρ σ eo hA R F fl ρ' σ' e Q E h
  obtain ⟨⟨av, σ2⟩, e1, e⟩ := obind e
  (first | obtain ⟨rfl, rfl⟩ := Prod.mk.inj (Option.some.inj e) | cases e)
  obtain ⟨⟨as, σ1⟩, e1, e2⟩ := obind e1
  obtain ⟨o, ho, hdata⟩ := hf
  rw [PySem.exec_Assign_Name _ _ _ _ _ (hs env)]
  refine wpC_step (wpAny_standAt (wpC_bind ?_))
  rw [arm_eval_Call_Name']
  refine wpC_step (sim_glob (prog := prog) (w := w) (k := k) (nms := nms) (nm := nm) (pos := fp) (.ref a) hk hd hg env A s φ ρ σ eo hA R F _ _ rfl _ _ fun v h₁ tk₁ φ₁ X₁ r₁ => ?_)
  (first | obtain ⟨_, rfl⟩ := r₁.intI | obtain ⟨_, rfl⟩ := r₁.strI | obtain rfl := r₁.nilI | obtain ⟨rfl, _⟩ := r₁.refI | cases r₁)
  refine callWithC_function (o := o) (fd := fd) ?_
  obtain ⟨e0, es, rfl, hst⟩ := pl.first
  have main := h1 env A { s with heap := h₁, toks := tk₁ } φ₁ ρ σ cp eo hA X₁.rel (F.ext X₁) as σ1 e1 (fun vs s₂ => (s₂.heap.get? a = some o ∧ o.data = .func fd) ∧ wpC (model prog w) A (call (.ref a) vs) (fun v s₃ => wpC (model prog w) A (do standAt px; bindName env x v; pure Flow.next) Q E s₃) E s₂) E
    fun vs h₂ tk₂ φ₂ X₂ r₂ => ⟨⟨X₂.rel.base _ _ ho, hdata⟩, hp A _ φ₂ σ1 as vs hA X₂.rel r₂ av _ e2 _ _ fun v h₃ tk₃ φ₃ X₃ r₃ => by
      have X := (X₁.trans X₂).trans X₃
      refine wpC_step (wpAny_standAt (wpC_step (wpAny_bindName ?_)))
      exact sim_store eo X₃.rel (F.ext X) r₃ hx hkx hnd (List.mem_singleton_self x) fun h₄ tk₄ X₄ F₄ => wpC_pure (h _ h₄ tk₄ φ₃ ((X.toW F.wk).trans (X₄.up (F.ext X).wk)) .next F₄)⟩
  rw [hst] at main ⊢
  exact evalArgs_plain main
/-- x = T(..), T a type -/
theorem simsC_assignT {x fnm : Str} {px fp cp ap : Pos} {T : String} {args : List Expr} {fs : EFs} {op : CF} (i : Nat) (hk : nms.lookup fnm = some .globalImplicit) (hd : (fnm == ("__debug__" : Str)) = false) (hg : GlobIs g fnm (.type T))
    (h1 : SimEs prog w g k nms nm args fs) (pl : Plain args) (hp : PrimCC prog w g k (.type T) op) (hx : nm[i]? = some x) (hkx : stKind nms x = true) (hnd : nm.Nodup)
    (hs : ∀ env, swapsWith (.Call (.Name fnm fp) args [] cp) (some (.Name x px)) ap.line env = pure false) : SimSC prog w g k nms nm (.Assign [.Name x px] (.Call (.Name fnm fp) args [] cp) ap) (asgS i (callE op fs)) := by
  intro env A s φ ρ σ eo hA R F fl ρ' σ' e Q E h
  obtain ⟨⟨av, σ2⟩, e1, e⟩ := obind e
  (first | obtain ⟨rfl, rfl⟩ := Prod.mk.inj (Option.some.inj e) | cases e)
  obtain ⟨⟨as, σ1⟩, e1, e2⟩ := obind e1
  rw [PySem.exec_Assign_Name _ _ _ _ _ (hs env)]
  refine wpC_step (wpAny_standAt (wpC_bind ?_))
  rw [arm_eval_Call_Name']
  refine wpC_step (sim_glob (prog := prog) (w := w) (k := k) (nms := nms) (nm := nm) (pos := fp) (.type T) hk hd hg env A s φ ρ σ eo hA R F _ _ rfl _ _ fun v h₁ tk₁ φ₁ X₁ r₁ => ?_)
  (first | obtain ⟨_, rfl⟩ := r₁.intI | obtain ⟨_, rfl⟩ := r₁.strI | obtain rfl := r₁.nilI | obtain ⟨rfl, _⟩ := r₁.refI | cases r₁)
  refine callWithC_type (pl.plain env cp) ?_
  obtain ⟨e0, es, rfl, hst⟩ := pl.first
  have main := h1 env A { s with heap := h₁, toks := tk₁ } φ₁ ρ σ cp eo hA X₁.rel (F.ext X₁) as σ1 e1 (fun vs s₂ => wpC (model prog w) A (call (.type T) vs) (fun v s₃ => wpC (model prog w) A (do standAt px; bindName env x v; pure Flow.next) Q E s₃) E s₂) E
    fun vs h₂ tk₂ φ₂ X₂ r₂ => hp A _ φ₂ σ1 as vs hA X₂.rel r₂ av _ e2 _ _ fun v h₃ tk₃ φ₃ X₃ r₃ => by
      have X := (X₁.trans X₂).trans X₃
      refine wpC_step (wpAny_standAt (wpC_step (wpAny_bindName ?_)))
      exact sim_store eo X₃.rel (F.ext X) r₃ hx hkx hnd (List.mem_singleton_self x) fun h₄ tk₄ X₄ F₄ => wpC_pure (h _ h₄ tk₄ φ₃ ((X.toW F.wk).trans (X₄.up (F.ext X).wk)) .next F₄)
  rw [hst] at main ⊢
  exact evalArgs_plain main

theorem run_fnC {A s φ σ} {a : Addr} {fd : FuncData} {body : List Stmt} {params locs : List Str} {vals : List Value} {args : Args} {as : List AV} {bf : SF} (fn : FnOK g a fd body nms params) (hb : BindsTo s fd args (params.zip vals))
    (hr : Reps g φ σ.length s.heap as vals) (hlen : as.length = params.length) (hnm : nm = params ++ locs) (hnd : nm.Nodup) (hs : SimSsC prog w g k nms nm body bf) (hA : Rm A (k + 1)) (R : Rel g φ σ s.heap) {nl : Nat} {av σ'} (e : callF nl bf as σ = some (av, σ')) {Rr : Result → Shared → Prop}
    (h : ∀ v h' tk φ', Ext g φ σ s.heap φ' σ' h' → Rep g φ' σ'.length h' av v → Rr (.ok (.ret v)) { s with heap := h', toks := tk }) :
    codeC (model prog w) A (.call (.ref a) args) Rr s := by
  obtain ⟨⟨c, ρ', σ2⟩, e1, e⟩ := obind e
  obtain ⟨o, ho, hdata⟩ := fn.ob
  have kd : ∀ x ∈ params, fd.scope.names.lookup x = some .local ∨ fd.scope.names.lookup x = some .cell := fun x hx => by
    have := fn.par x hx
    unfold stKind at this
    rw [Bool.or_eq_true, beq_iff_eq, beq_iff_eq] at this
    rw [fn.names]; exact this
  have hpn : params.Nodup := by rw [hnm] at hnd; exact (List.nodup_append.mp hnd).1
  refine codeC_call_function (by have := hA.dp; (first | lia | omega)) (R.base _ _ ho) hdata fn.coro fn.gen fn.body (fn.code.keeps R.base) (hb _ _ _ _ ?_)
  rw [fn.clo]
  refine wpAny_newFunctionEnv_cells fn.kind (fun x hx => ?_) fun env he s' x => ?_
  · have hx1 := (List.of_mem_zip hx).1
    rcases kd _ hx1 with h1 | h1
    · exact .inl h1
    · exact .inr ⟨h1, cellsFrom_has _ _ _ (.inl (mem_of_lookup h1))⟩
  · subst he
    obtain ⟨h₁, tk₁, rfl⟩ := x.toInCall.same
    refine ⟨(fn.lim.keeps R.base).keeps x.toInCall.keep, codeC_func ?_⟩
    have X0 := Ext.grow (h' := h₁) R x.toInCall.keep
    generalize hL : s.heap.objs.size = L at x
    generalize henv : newEnv fd.scope L fd.globals (cellsFrom (L + 1) fd.scope.names []) (fd.qualname ++ ".<locals>.") (some a) fd.code none fd.builtins = env at x
    have eL : env.locals = L := by rw [← henv]; rfl
    have eC : env.cells = cellsFrom (L + 1) fd.scope.names [] := by rw [← henv]; rfl
    have eK : ∀ y, env.kindOf y = fd.scope.names.lookup y := fun y => by rw [← henv]; rfl
    have fresh : ∀ b, L ≤ b → s.heap.get? b = none := fun b hb => by
      cases e : s.heap.get? b with
      | none => rfl
      | some o' => exact absurd (Heap.lt_size e) (Nat.not_lt.mpr (by rw [hL]; exact hb))
    have hW : ∀ b, envW env b → s.heap.get? b = none := by
      rintro b (rfl | ⟨y, hy, hc⟩)
      · exact fresh _ (by rw [eL]; exact Nat.le_refl _)
      · exact fresh _ (Nat.le_of_lt (by have := x.above y b (mem_of_lookup hc); rwa [eL] at this))
    have eo : EnvOK nms env := by
      refine ⟨by rw [← henv]; exact fn.kind, by rw [← henv]; exact fn.names, by rw [← henv]; exact fn.glob, by rw [← henv]; exact fn.bi, fun y z c h1 h2 => ?_⟩
      exact name_of_addr x.apart (mem_of_lookup h1) (mem_of_lookup h2)
    obtain ⟨b1, b2⟩ := bind_lookup (kindOf := env.kindOf) params vals (fun _ => none) (fun _ => none) hpn fun y hy => by rw [eK]; exact kd y hy
    have F : FrameOK g nm env φ σ.length h₁ (as.map some ++ List.replicate nl none) := by
      refine ⟨⟨_, x.toInCall.ns, fun i av' hi => ?_⟩, fun y hy => ?_, base_none R (hW _ (.inl rfl))⟩
      · have hi' : as[i]? = some av' := by
          unfold Fm.get at hi
          rw [List.getD_eq_getElem?_getD] at hi
          by_cases hlt : i < as.length
          · rw [List.getElem?_append_left (by simpa using hlt), List.getElem?_map] at hi
            cases h9 : as[i]? with
            | none => rw [h9] at hi; cases hi
            | some q => rw [h9] at hi; exact congrArg some (by simpa using hi)
          · rw [List.getElem?_append_right (by simpa using Nat.not_lt.mp hlt), List.getElem?_replicate] at hi
            split at hi <;> cases hi
        obtain ⟨v, hv, hrep⟩ := hr.get hi'
        have hip : i < params.length := by rw [← hlen]; exact (List.getElem?_eq_some_iff.mp hi').1
        have hp : params[i]? = some params[i] := List.getElem?_eq_getElem hip
        refine ⟨params[i], by rw [hnm, List.getElem?_append_left hip]; exact hp, ?_⟩
        obtain ⟨c1, c2⟩ := b2 i _ v hp hv
        rcases kd params[i] (List.getElem_mem hip) with h1 | h1
        · exact .inl ⟨by rw [eK]; exact h1, v, c1 (by rw [eK]; exact h1), hrep.ext X0⟩
        · have hk : env.kindOf params[i] = some .cell := by rw [eK]; exact h1
          have := cellsFrom_has fd.scope.names (L + 1) [] (.inl (mem_of_lookup h1))
          rw [← eC] at this
          obtain ⟨cc, hcc⟩ := Option.isSome_iff_exists.mp this
          have h5 := x.cell _ _ hcc
          rw [c2 hk] at h5
          exact .inr ⟨hk, cc, v, hcc, h5, hrep.ext X0⟩
      · have hk := hy
        rw [eK] at hy
        have := cellsFrom_has fd.scope.names (L + 1) [] (.inl (mem_of_lookup hy))
        rw [← eC] at this
        obtain ⟨cc, hcc⟩ := Option.isSome_iff_exists.mp this
        exact ⟨cc, _, hcc, x.cell _ _ hcc, base_none R (hW _ (.inr ⟨y, hk, hcc⟩))⟩
    refine hs env (A.deeper env) { s with heap := h₁, toks := tk₁ } φ _ σ eo hA.deeper X0.rel F c ρ' σ2 e1 _ _ fun flc h₂ tk₂ φ₂ X₂ r₂ F₂ => ?_
    have wk : WD (envW env) s.heap := fun b o hw e => by rw [hW b hw] at e; (first | obtain ⟨rfl, rfl⟩ := Prod.mk.inj (Option.some.inj e) | cases e)
    have X : Ext g φ σ s.heap φ₂ σ2 h₂ := ((X0.toW wk).trans X₂).old fun b o hw e => by rw [hW b hw] at e; (first | obtain ⟨rfl, rfl⟩ := Prod.mk.inj (Option.some.inj e) | cases e)
    cases r₂ with
    | next => (first | obtain ⟨rfl, rfl⟩ := Prod.mk.inj (Option.some.inj e) | cases e); exact h _ h₂ tk₂ φ₂ X (.con _)
    | brk => (first | obtain ⟨rfl, rfl⟩ := Prod.mk.inj (Option.some.inj e) | cases e)
    | cont => (first | obtain ⟨rfl, rfl⟩ := Prod.mk.inj (Option.some.inj e) | cases e)
    | ret r => (first | obtain ⟨rfl, rfl⟩ := Prod.mk.inj (Option.some.inj e) | cases e); exact h _ h₂ tk₂ φ₂ X r
theorem prim_fnC {a : Addr} {fd : FuncData} {body : List Stmt} {params locs : List Str} {bf : SF} (n : Nat) (fn : FnOK g a fd body nms params) (hs : SimSsC prog w g k nms nm body bf) (hnm : nm = params ++ locs) (hnd : nm.Nodup) (nl : Nat)
    (hp : params.length = n) (hb : ∀ vs : List Value, vs.length = n → bindArgs fd ⟨vs, []⟩ = pure (params.zip vs)) : PrimCC prog w g (k + 1) (.ref a) (plainF n nl bf) := by
  intro A s φ σ as vs hA R hr av σ' e Q E h
  unfold plainF at e
  split at e
  · rename_i hl
    exact wpC_call (run_fnC (args := ⟨vs, []⟩) fn (.of_eq (hb vs (hr.length.trans hl))) hr (hl.trans hp.symm) hnm hnd hs hA R e h)
  · (first | obtain ⟨rfl, rfl⟩ := Prod.mk.inj (Option.some.inj e) | cases e)
end
end Mine
end
section
set_option maxRecDepth 100000
namespace Mine

theorem ba_mro : mroOf (.type "bytearray") = pure [.type "bytearray", .type "object"] := by rw [mroOf_type]; kernel_rfl
theorem ba_lookup_new : typeLookup (.type "bytearray") "__new__" = pure (some (.builtin "bytearray.__new__")) := by rw [typeLookup_type, builtinLookup_eq_fast]; kernel_rfl
theorem ba_slot_init : Slot "bytearray" "__init__" "bytearray.__init__" :=
  .of (owner := "bytearray") (n := "__init__") (by rw [typeLookup_type, builtinLookup_eq_fast]; kernel_rfl) (by decide +kernel) (by decide +kernel) (by decide +kernel)
    (by first | exact .inl (by decide +kernel) | exact .inr (by decide +kernel)) (by rw [isSubtype_type]; kernel_rfl)
theorem ba_called : TypeCalled "bytearray" "bytearray.__new__" "bytearray.__init__" :=
  ⟨by decide +kernel, by decide +kernel, ⟨_, _, ba_mro⟩, madeBy_type ba_mro ba_lookup_new (by decide +kernel), by decide +kernel, ba_sub, ba_slot_init⟩
theorem ba_typeCall (a : Value) : checkTypeCall "bytearray" ⟨[a], []⟩ = pure () := by kernel_rfl
theorem ba_newCall (a : Value) : checkBuiltinCall "bytearray.__new__" ⟨[.type "bytearray", a], []⟩ = pure () := by kernel_rfl
theorem ba_plain_new : plainId "bytearray.__new__" = true := by decide +kernel
theorem ba_entry_new : entryFor table "bytearray.__new__" = some Builtin.«list.__new__» :=
  entryFor_alias (id' := "list.__new__") (by kernel_rfl) (by first | rfl | decide +kernel | (unfold String.splitOn; simp +decide [String.splitOnAux])) (by decide +kernel) (by kernel_rfl)
theorem ba_entry_init : entryFor table "bytearray.__init__" = some Builtin.«bytearray.__init__» := entryFor_of_tree (by kernel_rfl)
theorem ba_args_init (a b : Value) : argsOk "bytearray.__init__" ⟨[a, b], []⟩ := by unfold argsOk; kernel_rfl
set_option maxRecDepth 1000000 in
set_option maxHeartbeats 4000000 in
theorem owner_ba_new : ("bytearray.__new__".splitOn ".__new__").headD "" = "bytearray" := by simp +decide [String.splitOn, String.splitOnAux]
section
variable {prog : Program} {w : World} {g : Heap} {k : Nat}
theorem code_ba_new {A s} {E : Value → Shared → Prop} (a : Value) {Q₁ : Value → Shared → Prop}
    (h : Q₁ (.ref s.heap.objs.size) { s with heap := s.heap.push { cls := .type "bytearray", data := .bytearray #[] } }) :
    codeAny (model prog w) A (.call (.builtin "bytearray.__new__") ⟨[.type "bytearray", a], []⟩) (wants Q₁ E) s := by
  refine codeAny_of_tree ?_
  show wpAny _ A.in1 (do checkBuiltinCall "bytearray.__new__" ⟨[.type "bytearray", a], []⟩; again (.builtin "bytearray.__new__" ⟨[.type "bytearray", a], []⟩)) _ _ s
  refine wpAny_bind (wpAny_of_eq (ba_newCall a) (wpAny_pure ⟨plainId_quiet ba_plain_new _, codeAny_builtin_stack ba_entry_new rfl fun p st => ?_⟩))
  rw [Around.under_plainId ba_plain_new _]
  have hsub := ba_sub
  have hown := owner_ba_new
  obtain ⟨hp, g, d, tk, os⟩ := s
  simp only [hown]
  wp_walk
  exact h
theorem codeC_builtin {A s} {id : String} {args : Args} {b : Builtin} {R : Result → Shared → Prop} (hbad : badIds.contains id = false) (hb : entryFor table id = some b)
    (h : wpC (model prog w) (A.under (.builtin id args)) (b args)
      (fun fin s' => match fin with | .done f => R (.ok f) s' | .again c' => c'.quiet = true ∧ codeC (model prog w) A c' R s') (fun e s' => R (.error e) s') s) :
    codeC (model prog w) A (.builtin id args) R s := by
  refine codeC_of_tree hbad ?_
  show wpC _ _ (match entryFor table id with | some b => b args | none => unsupported ((withoutEnding? id "#data").getD id)) _ _ s
  rw [hb]; exact h
theorem ifC_false {α : Type} {M : Model} {A : Around} {E : Value → Shared → Prop} {s : Shared} {c : Bool} {x y : Sem α} {Q : α → Shared → Prop} (hc : c = false) (h : wpC M A y Q E s) : wpC M A (if c = true then x else y) Q E s := by
  rw [if_neg (by rw [hc]; decide)]; exact h
theorem ifC_true {α : Type} {M : Model} {A : Around} {E : Value → Shared → Prop} {s : Shared} {c : Bool} {x y : Sem α} {Q : α → Shared → Prop} (hc : c = true) (h : wpC M A x Q E s) : wpC M A (if c = true then x else y) Q E s := by
  rw [if_pos hc]; exact h
theorem exported_false {M : Model} {A : Around} {E : Value → Shared → Prop} {s : Shared} {v : Value} {Q : Bool → Shared → Prop} (h : Q false s) : wpC M A (Builtin.Bytes.exported v) Q E s := fun Γ p hΓ hC => by
  unfold Builtin.Bytes.exported
  rw [Sem.wp_bind']
  unfold PySem.stack
  rw [Sem.wp_stack]
  show Q (List.any _ _) s
  rw [List.any_eq_false.mpr]
  · exact h
  · intro x hx hb
    have hbad : Bad x.1 = false := by
      rcases List.mem_cons.mp hx with rfl | hx
      · exact hC.1
      · exact hC.2 x hx
    obtain ⟨c, q⟩ := x
    refine Bool.eq_false_iff.mp ?_ hb
    clear hb hx h hC
    cases c with
    | builtin id args =>
      obtain ⟨n1, n2, n3, n4, n5, hd⟩ : id ≠ "bytearray.__contains__" ∧ id ≠ "bytearray.__mod__" ∧ id ≠ "bytearray.__rmod__" ∧ id ≠ "_struct.pack_into.held" ∧ id ≠ "bytearray.find.held" ∧ Builtin.Bytes.decodersThatHold.contains id = false := by
        have hn : id ∉ badIds := fun hm => by
          have : badIds.contains id = true := List.contains_iff_mem.mpr hm
          exact Bool.noConfusion (hbad.symm.trans this)
        refine ⟨fun e => hn (e ▸ .head _), fun e => hn (e ▸ .tail _ (.head _)), fun e => hn (e ▸ .tail _ (.tail _ (.head _))), fun e => hn (e ▸ .tail _ (.tail _ (.tail _ (.head _)))), fun e => hn (e ▸ .tail _ (.tail _ (.tail _ (.tail _ (.head _))))), Bool.eq_false_iff.mpr fun hc => hn (List.mem_append_right _ (List.contains_iff_mem.mp hc))⟩
      delta Builtin.Bytes.exported.match_1
      refine (dif_neg n1).trans ?_
      refine (dif_neg n2).trans ?_
      refine (dif_neg n3).trans ?_
      refine (dif_neg n4).trans ?_
      refine (dif_neg n5).trans ?_
      obtain ⟨pos, kw⟩ := args
      cases pos with
      | nil => rfl
      | cons v tl =>
        show (Builtin.Bytes.sameRef v _ && Builtin.Bytes.decodersThatHold.contains id) = false
        rw [hd, Bool.and_false]
    | _ => rfl
theorem baI_bind (a : Value) : Builtin.Bytes.bindOptional "bytearray.__init__" "bytearray" ["source", "encoding", "errors"] [a] [] = pure [some a, none, none] := by rfl

theorem ba_write {A s} {a : Addr} {b : List Nat} {f : Array UInt8 → Array UInt8} {b' : List Nat} {E : Value → Shared → Prop} {Q : Unit → Shared → Prop} (ha : s.heap.get? a = some (barObj b)) (hf : f (bytesArr b) = bytesArr b') (hz : b'.length ≤ 65536)
    (h : ∀ h', h'.get? a = some (barObj b') → (∀ c o, c ≠ a → s.heap.get? c = some o → h'.get? c = some o) → Q () { s with heap := h' }) : wpAny (model prog w) A (Builtin.Bytes.write (.ref a) f) Q E s := by
  show wpAny (model prog w) A (updateBytearray a f) Q E s
  unfold updateBytearray
  refine wpAny_bind (wpAny_load ha ?_)
  show wpAny _ _ (update a (Obj.mapBytearray f) >>= fun _ => lookBehind a) _ _ _
  refine wpAny_bind (wpAny_update ha ?_)
  have hS := Heap.get?_update_self (Obj.mapBytearray f) ha rfl
  have e9 : Obj.mapBytearray f (barObj b) = barObj b' := by
    show ({ cls := .type "bytearray", data := .bytearray (f (bytesArr b)) 0 } : Obj) = _
    rw [hf]
  rw [e9] at hS
  refine wpAny_lookBehind hS ?_ (h _ hS fun c o hc e => (Heap.SameBut.update ..).extBut c o hc e)
  show (if (bytesArr b').size > sizeLine then some "bytearray:memory" else none) = none
  rw [if_neg]
  have hz' : (bytesArr b').size = b'.length := by unfold bytesArr; simp
  have := szl hz
  (first | lia | omega)
theorem ba_own {A s} {E : Value → Shared → Prop} {a : Addr} {Q : Bool → Shared → Prop} (hT : s.TypeIs (.ref a) "bytearray") (h : Q false s) : wpAny (model prog w) A (Builtin.Bytes.ownRelease (.ref a)) Q E s := by
  unfold Builtin.Bytes.ownRelease Builtin.Bytes.slotIsOwn
  refine wpAny_bind (wpAny_bind (wpAny_specialOf hT ba_release ?_))
  refine wpAny_ite ?_
  rw [if_neg (by decide +kernel)]
  have inst : ∀ {Q'' : Bool → Shared → Prop} {E''} , Q'' true s → ∀ T : String, T = "bytearray" → wpAny (model prog w) A (isInstance (.ref a) (.type T)) Q'' E'' s := by
    intro Q'' E'' hq T hT'
    subst hT'
    exact wpAny_isInstance hT ba_sub hq
  refine inst ?_ _ (by decide +kernel)
  exact wpAny_pure h
theorem codeC_call_builtin {A s} {id : String} {args : Args} {b : Builtin} {R : Result → Shared → Prop} (hq : plainId id = true) (hbad : badIds.contains id = false) (hb : entryFor table id = some b)
    (h : wpAny (model prog w) A.in1 (checkBuiltinCall id args) (fun _ s₁ => wpC (model prog w) A.in1 (b args)
      (fun fin s' => match fin with | .done f => R (.ok f) s' | .again c' => c'.quiet = true ∧ codeC (model prog w) A c' R s') (fun e s' => R (.error e) s') s₁)
      (fun e s' => R (.error e) s') s) : codeC (model prog w) A (.call (.builtin id) args) R s := by
  refine codeC_of_tree rfl ?_
  show wpC _ A.in1 (do checkBuiltinCall id args; again (.builtin id args)) _ _ s
  refine wpC_step (wpAny_mono h (fun _ s₁ h₁ => wpC_pure (And.intro (plainId_quiet hq args) (codeC_builtin hbad hb ?_))) fun _ _ h' => h')
  rw [Around.under_plainId hq args]
  exact h₁
theorem ba_call {A s} {E : Value → Shared → Prop} {n : Int} {t : Tok} {Q : Value → Shared → Prop} (h0 : 0 ≤ n) (h1 : n ≤ 65536)
    (h : ∀ h', h'.get? s.heap.objs.size = some (barObj (List.replicate n.toNat 0)) → (∀ b o, s.heap.get? b = some o → h'.get? b = some o) → Q (.ref s.heap.objs.size) { s with heap := h' }) : wpC (model prog w) A (call (.type "bytearray") [.int n t]) Q E s := by
  refine wpC_call (codeC_of_tree rfl ?_)
  show wpC _ _ (callAny (.type "bytearray") _) _ _ _
  refine wpC_pure ⟨Code.quiet_builtin _ (by decide +kernel), codeC_builtin (by decide +kernel) PySem.F.entry_type_call ?_⟩
  rw [Around.under_plain (weight_type_call_type "bytearray" _ []) rfl]
  unfold Builtin.«type.__call__»
  refine ifC_false (by decide) ?_
  refine ifC_false ba_called.canCreate ?_
  refine wpC_step (wpAny_of_eq (ba_typeCall _) ?_)
  refine wpC_step (wpAny_of_eq ba_mro ?_)
  refine ifC_false (by decide) ?_
  refine wpC_step (wpAny_of_eq ba_called.made ?_)
  refine wpC_step (wpAny_pure ?_)
  refine wpC_step (wpAny_holding (wpAny_call (code_ba_new _ ?_)))
  have hA : ({ s with heap := s.heap.push { cls := .type "bytearray", data := .bytearray #[] } } : Shared).heap.get? s.heap.objs.size = some (barObj []) := Heap.get?_push_size _ rfl
  have hT : ({ s with heap := s.heap.push { cls := .type "bytearray", data := .bytearray #[] } } : Shared).TypeIs (.ref s.heap.objs.size) "bytearray" := typ_ba hA
  have keep0 : ∀ b o, s.heap.get? b = some o → (s.heap.push { cls := .type "bytearray", data := .bytearray #[] }).get? b = some o := fun b o e => Heap.get?_push_of_some _ e
  generalize s.heap.push { cls := .type "bytearray", data := .bytearray #[] } = h₁ at hA hT keep0 ⊢
  have hlt : ∀ b o, s.heap.get? b = some o → b ≠ s.heap.objs.size := fun b o e => Nat.ne_of_lt (Heap.lt_size e)
  generalize s.heap.objs.size = a at hA hT hlt h ⊢
  refine wpC_step (wpAny_isInstance hT ba_sub ?_)
  refine ifC_false rfl ?_
  refine wpC_bind (wpC_holding ?_)
  unfold callSpecial?
  refine wpC_step (wpAny_specialOf hT ba_called.init.lookup ?_)
  show wpC _ _ (holding _ (bindSpecial (.builtin "bytearray.__init__") (.ref a) >>= _)) _ _ _
  rw [ba_called.init.bind]
  refine wpC_holding (wpC_step (wpAny_pure ?_))
  show wpC _ _ (call (.builtin "bytearray.__init__") [.ref a, .int n t] [] >>= _) _ _ _
  refine wpC_bind (wpC_call (codeC_call_builtin ba_called.init.plain (by decide +kernel) ba_entry_init (ba_called.init.check _ _ _ _ _ _ _ _ hT (ba_args_init _ _) ?_)))
  unfold Builtin.«bytearray.__init__»
  refine wpC_step (ba_own hT ?_)
  refine ifC_false rfl ?_
  refine wpC_step (wpAny_of_eq (baI_bind _) ?_)
  refine wpC_step (wpAny_of_eq (a := ()) rfl ?_)
  refine wpC_step (wpAny_of_eq (a := ()) rfl ?_)
  refine wpC_bind (wpC_bind (exported_false ?_))
  refine wpC_step (wpAny_bind (wpAny_load hA (wpAny_pure (wpC_pure ?_))))
  refine ifC_false rfl ?_
  refine wpC_step (ba_write (b' := []) hA rfl (by decide) fun h₂ hA₂ keep2 => ?_)
  refine wpC_step (wpAny_of_eq (a := none) rfl ?_)
  refine ifC_false rfl ?_
  refine wpC_step (wpAny_of_eq (a := ()) rfl ?_)
  refine wpC_step (wpAny_specialOf (typeIs_int _ n t) PySem.F.slot_int_index.lookup ?_)
  refine ifC_true rfl ?_
  refine wpC_step (wpAny_attempt (wpAny_of_eq (rfl : asIndex (.int n t) = pure n) ?_))
  have hf : Builtin.Bytes.fitsIndex n = true := by simp only [Builtin.Bytes.fitsIndex, Bool.and_eq_true, decide_eq_true_eq]; (first | lia | omega)
  refine ifC_false (by rw [hf]; rfl) ?_
  refine wpC_ite ?_
  rw [if_neg (by (first | lia | omega))]
  refine ifC_false (by simp; (first | lia | omega)) ?_
  refine ifC_false (by
    have := szl (n := n.toNat) (by (first | lia | omega))
    first
      | (unfold Builtin.Bytes.tooLong; simp; (first | lia | omega))
      | (unfold Builtin.tooLong; simp; (first | lia | omega))
      | (unfold Builtin.Str.tooLong; simp; (first | lia | omega))) ?_
  refine wpC_step (wpAny_rule ?_)
  have fin : ∀ h₃, h₃.get? a = some (barObj (List.replicate n.toNat 0)) → (∀ c o, c ≠ a → h₂.get? c = some o → h₃.get? c = some o) → Q (.ref a) { s with heap := h₃ } := fun h₃ hA₃ keep3 =>
    h h₃ hA₃ fun b o e => keep3 b o (hlt b o e) (keep2 b o (hlt b o e) (keep0 b o e))
  refine wpC_ite ?_
  by_cases hn : 0 < n
  · rw [if_pos hn]
    refine wpC_step (ba_write (b' := List.replicate n.toNat 0) hA₂ ?_ (by simp; (first | lia | omega)) fun h₃ hA₃ keep3 => ?_)
    · unfold bytesArr
      simp
    · exact wpC_pure (wpC_pure (ifC_false (by decide) (wpC_pure (fin h₃ hA₃ keep3))))
  · rw [if_neg hn]
    have e0 : n.toNat = 0 := by (first | lia | omega)
    exact wpC_pure (wpC_pure (ifC_false (by decide) (wpC_pure (fin h₂ (by rw [e0]; exact hA₂) (fun _ _ _ e => e)))))
noncomputable def baO : CF := fun as σ => match as with
  | [.int n] => if 0 ≤ n ∧ n ≤ 65536 then some (.ref σ.length, σ ++ [.barr (List.replicate n.toNat 0)]) else none
  | _ => none
theorem prim_ba : PrimCC prog w g k (.type "bytearray") baO := by
  intro A s φ σ as vs hA R r av σ' e Q E h
  unfold baO at e
  split at e
  · rename_i n
    split at e
    · rename_i hc
      (first | obtain ⟨rfl, rfl⟩ := Prod.mk.inj (Option.some.inj e) | cases e)
      obtain ⟨_, rfl, r1⟩ := r.oneI
      (first | obtain ⟨_, rfl⟩ := r1.intI | obtain ⟨_, rfl⟩ := r1.strI | obtain rfl := r1.nilI | obtain ⟨rfl, _⟩ := r1.refI | cases r1)
      refine ba_call hc.1 hc.2 fun h' hA' keep => ?_
      have X := Ext.made (ao := .barr (List.replicate n.toNat 0)) R keep ?_ hA' (.barr fun y hy => by rw [List.eq_of_mem_replicate hy]; decide)
      · have rr := Rep.ref (g := g) (φ := φput φ σ.length s.heap.objs.size) (n := (σ ++ [AO.barr (List.replicate n.toNat 0)]).length) (h := h') σ.length (by simp)
        rw [φput_new] at rr
        exact h _ h' s.toks _ X rr
      · cases e : s.heap.get? s.heap.objs.size with
        | none => rfl
        | some o => exact absurd (Heap.lt_size e) (Nat.lt_irrefl _)
    · (first | obtain ⟨rfl, rfl⟩ := Prod.mk.inj (Option.some.inj e) | cases e)
  · (first | obtain ⟨rfl, rfl⟩ := Prod.mk.inj (Option.some.inj e) | cases e)
end
end Mine
end
section
set_option maxRecDepth 100000
namespace Mine

/-! a call in a state of its own: the objects that its arguments reach, and no others; of what it makes the objects that its result reaches -/
mutual
noncomputable def renV (f : Nat → Nat) : AV → AV
  | .ref i => .ref (f i)
  | .tup vs => .tup (renVs f vs)
  | a => a
noncomputable def renVs (f : Nat → Nat) : List AV → List AV
  | [] => []
  | a :: as => renV f a :: renVs f as
end
mutual
noncomputable def okV (p : Nat → Bool) : AV → Bool
  | .ref i => p i
  | .tup vs => okVs p vs
  | .blist _ => false
  | _ => true
noncomputable def okVs (p : Nat → Bool) : List AV → Bool
  | [] => true
  | a :: as => okV p a && okVs p as
end
mutual
noncomputable def refsV : AV → List Nat
  | .ref i => [i]
  | .tup vs => refsVs vs
  | _ => []
noncomputable def refsVs : List AV → List Nat
  | [] => []
  | a :: as => refsV a ++ refsVs as
end
noncomputable def renO (f : Nat → Nat) : AO → AO
  | .list xs => .list (renVs f xs)
  | .barr b => .barr b
noncomputable def okO (p : Nat → Bool) : AO → Bool
  | .list xs => okVs p xs
  | .barr _ => true
noncomputable def refsO : AO → List Nat
  | .list xs => refsVs xs
  | .barr _ => []
noncomputable def atO (σ : St) (i : Nat) : AO := (σ[i]?).getD (.barr [])
noncomputable def addNew : List Nat → List Nat → List Nat
  | K, [] => K
  | K, i :: is => addNew (if K.contains i then K else K ++ [i]) is
/-- the objects that these reach: themselves, and those that they hold -/
noncomputable def reach (σ : St) (is : List Nat) : List Nat :=
  let K := addNew [] is
  addNew K (K.flatMap fun i => refsO (atO σ i))
noncomputable def frameG (op : CF) : CF := fun as σ =>
  let ids := reach σ (refsVs as)
  if ids.Nodup ∧ (ids.all fun i => decide (i < σ.length)) = true ∧ okVs ids.contains as = true ∧ (ids.all fun i => okO ids.contains (atO σ i)) = true then
    (op (renVs (fun i => ids.idxOf i) as) (ids.map fun i => renO (fun i => ids.idxOf i) (atO σ i))).bind fun q =>
      let m := ids.length
      let K := (reach q.2 (refsV q.1)).filter fun j => decide (m ≤ j)
      let p := fun j => decide (j < m) || K.contains j
      let b := fun j => if j < m then ids.getD j 0 else σ.length + K.idxOf j
      if K.Nodup ∧ (K.all fun j => decide (m ≤ j) && decide (j < q.2.length)) = true ∧ okV p q.1 = true ∧ ((List.range m).all fun k => okO p (atO q.2 k)) = true ∧ (K.all fun j => okO p (atO q.2 j)) = true then
        some (renV b q.1, (List.range σ.length).map (fun i => if ids.contains i = true then renO b (atO q.2 (ids.idxOf i)) else atO σ i) ++ K.map fun j => renO b (atO q.2 j))
      else none
  else none

mutual
theorem Rep.ren {g g' φ φ' n n' h} {f : Nat → Nat} {p : Nat → Bool} (hf : ∀ i, p i = true → f i < n' ∧ φ' (f i) = φ i) : ∀ {a v}, Rep g φ n h a v → okV p a = true → Rep g' φ' n' h (renV f a) v
  | _, _, .con v, _ => .con v
  | _, _, .bool b, _ => .bool b
  | _, _, .int i t, _ => .int i t
  | _, _, .str s t, _ => .str s t
  | _, _, .bytes b t hb, _ => .bytes b t hb
  | _, _, .tup e hr, h => .tup e (Reps.ren hf hr h)
  | _, _, .blist e hr, h => by cases h
  | _, _, .ref id hid, hq => by
    obtain ⟨h1, h2⟩ := hf id hq
    have := Rep.ref (g := g') (φ := φ') (n := n') (h := h) (f id) h1
    rw [h2] at this
    exact this
theorem Reps.ren {g g' φ φ' n n' h} {f : Nat → Nat} {p : Nat → Bool} (hf : ∀ i, p i = true → f i < n' ∧ φ' (f i) = φ i) : ∀ {as vs}, Reps g φ n h as vs → okVs p as = true → Reps g' φ' n' h (renVs f as) vs
  | _, _, .nil, _ => .nil
  | _, _, .cons a b, h => by
    rw [okVs, Bool.and_eq_true] at h
    exact .cons (Rep.ren hf a h.1) (Reps.ren hf b h.2)
end
theorem ORep.ren {g g' φ φ' n n' h} {f : Nat → Nat} {p : Nat → Bool} (hf : ∀ i, p i = true → f i < n' ∧ φ' (f i) = φ i) {a o} (x : ORep g φ n h a o) (hp : okO p a = true) : ORep g' φ' n' h (renO f a) o := by
  cases x with
  | list hr => exact .list (Reps.ren hf hr hp)
  | barr hb => exact .barr hb

noncomputable def withouts (h : Heap) : List Addr → Heap
  | [] => h
  | a :: as => without (withouts h as) a
theorem withouts_other {h : Heap} {b : Addr} : ∀ {as : List Addr}, b ∉ as → (withouts h as).get? b = h.get? b
  | [], _ => rfl
  | a :: as, hb => by
    rw [withouts, without_other (fun e => hb (by rw [e]; exact List.mem_cons_self ..))]
    exact withouts_other fun h => hb (List.mem_cons_of_mem _ h)
theorem withouts_self {h : Heap} {b : Addr} : ∀ {as : List Addr}, b ∈ as → (withouts h as).get? b = none
  | a :: as, hb => by
    by_cases e : b = a
    · rw [e, withouts, without_self]
    · rw [withouts, without_other e]
      exact withouts_self ((List.mem_cons.mp hb).resolve_left e)
theorem atO_eq {σ : St} {i : Nat} {o : AO} (h : σ[i]? = some o) : atO σ i = o := by unfold atO; rw [h]; rfl
theorem atO_get {σ : St} {i : Nat} (h : i < σ.length) : σ[i]? = some (atO σ i) := by unfold atO; rw [List.getElem?_eq_getElem h]; rfl
theorem idx_get {ids : List Nat} {i : Nat} (h : i ∈ ids) : ids[ids.idxOf i]? = some i := by
  have hl := List.idxOf_lt_length_of_mem h
  rw [List.getElem?_eq_getElem hl, List.getElem_idxOf hl]
theorem idx_of_get {ids : List Nat} (hn : ids.Nodup) {i k : Nat} (h : ids[k]? = some i) : ids.idxOf i = k := by
  have hm : i ∈ ids := List.mem_of_getElem? h
  exact (List.getElem?_inj (List.idxOf_lt_length_of_mem hm) hn).mp ((idx_get hm).trans h.symm)

/-- what a frame's answer says -/
structure Framed (op : CF) (as : List AV) (σ : St) (av : AV) (σ' : St) (ids K : List Nat) (r : AV) (σ1 : St) : Prop where
  nd : ids.Nodup
  lt : ∀ i ∈ ids, i < σ.length
  ok : okVs ids.contains as = true
  oks : ∀ i ∈ ids, okO ids.contains (atO σ i) = true
  run : op (renVs (fun i => ids.idxOf i) as) (ids.map fun i => renO (fun i => ids.idxOf i) (atO σ i)) = some (r, σ1)
  knd : K.Nodup
  klt : ∀ j ∈ K, ids.length ≤ j ∧ j < σ1.length
  okr : okV (fun j => decide (j < ids.length) || K.contains j) r = true
  ok1 : ∀ k, k < ids.length → okO (fun j => decide (j < ids.length) || K.contains j) (atO σ1 k) = true
  okk : ∀ j ∈ K, okO (fun j => decide (j < ids.length) || K.contains j) (atO σ1 j) = true
  av : av = renV (fun j => if j < ids.length then ids.getD j 0 else σ.length + K.idxOf j) r
  st : σ' = (List.range σ.length).map (fun i => if ids.contains i = true then renO (fun j => if j < ids.length then ids.getD j 0 else σ.length + K.idxOf j) (atO σ1 (ids.idxOf i)) else atO σ i) ++ K.map fun j => renO (fun j => if j < ids.length then ids.getD j 0 else σ.length + K.idxOf j) (atO σ1 j)
theorem framed_of {op : CF} {as σ av σ'} (e : frameG op as σ = some (av, σ')) : ∃ ids K r σ1, Framed op as σ av σ' ids K r σ1 := by
  unfold frameG at e
  dsimp only at e
  split at e
  · rename_i hc
    obtain ⟨h1, h2, h3, h4⟩ := hc
    obtain ⟨⟨r, σ1⟩, e1, e⟩ := obind e
    dsimp only at e
    split at e
    · rename_i hk
      obtain ⟨k1, k2, k3, k4, k5⟩ := hk
      (first | obtain ⟨rfl, rfl⟩ := Prod.mk.inj (Option.some.inj e) | cases e)
      refine ⟨_, _, r, σ1, h1, fun i hi => of_decide_eq_true (List.all_eq_true.mp h2 i hi), h3, fun i hi => List.all_eq_true.mp h4 i hi, e1, k1, fun j hj => ?_, k3, fun k hk => List.all_eq_true.mp k4 k (List.mem_range.mpr hk), fun j hj => List.all_eq_true.mp k5 j hj, rfl, rfl⟩
      have := List.all_eq_true.mp k2 j hj
      rw [Bool.and_eq_true] at this
      exact ⟨of_decide_eq_true this.1, of_decide_eq_true this.2⟩
    · (first | obtain ⟨rfl, rfl⟩ := Prod.mk.inj (Option.some.inj e) | cases e)
  · (first | obtain ⟨rfl, rfl⟩ := Prod.mk.inj (Option.some.inj e) | cases e)

section
variable {prog : Program} {w : World} {g : Heap} {k : Nat}
theorem Framed.small {op as σ av σ' ids K r σ1} (x : Framed op as σ av σ' ids K r σ1) {φ h} (R : Rel g φ σ h) :
    Rel (withouts h (ids.map φ)) (fun k => φ (ids.getD k 0)) (ids.map fun i => renO (fun i => ids.idxOf i) (atO σ i)) h ∧ (∀ b o, g.get? b = some o → (withouts h (ids.map φ)).get? b = some o) ∧
      ∀ i, ids.contains i = true → ids.idxOf i < (ids.map fun i => renO (fun i => ids.idxOf i) (atO σ i)).length ∧ φ (ids.getD (ids.idxOf i) 0) = φ i := by
  have hf : ∀ i, ids.contains i = true → ids.idxOf i < (ids.map fun i => renO (fun i => ids.idxOf i) (atO σ i)).length ∧ φ (ids.getD (ids.idxOf i) 0) = φ i := fun i hi => by
    have hm : i ∈ ids := List.contains_iff_mem.mp hi
    refine ⟨by rw [List.length_map]; exact List.idxOf_lt_length_of_mem hm, ?_⟩
    rw [List.getD_eq_getElem?_getD, idx_get hm]; rfl
  refine ⟨⟨fun k o e => ?_, fun i j hi hj e => ?_, fun b o e => ?_, fun k hk => ?_⟩, fun b o e => ?_, hf⟩
  · rw [List.getElem?_map] at e
    cases hi : ids[k]? with
    | none => rw [hi] at e; (first | obtain ⟨rfl, rfl⟩ := Prod.mk.inj (Option.some.inj e) | cases e)
    | some i =>
      rw [hi] at e
      (first | obtain ⟨rfl, rfl⟩ := Prod.mk.inj (Option.some.inj e) | cases e)
      have hm : i ∈ ids := List.mem_of_getElem? hi
      have e0 : ids.getD k 0 = i := by rw [List.getD_eq_getElem?_getD, hi]; rfl
      obtain ⟨ob, h1, h2⟩ := R.objs i _ (atO_get (x.lt i hm))
      rw [e0]
      exact ⟨ob, h1, h2.ren hf (x.oks i hm)⟩
  · rw [List.length_map] at hi hj
    have gi : ids.getD i 0 = ids[i] := by rw [List.getD_eq_getElem?_getD, List.getElem?_eq_getElem hi]; rfl
    have gj : ids.getD j 0 = ids[j] := by rw [List.getD_eq_getElem?_getD, List.getElem?_eq_getElem hj]; rfl
    rw [gi, gj] at e
    have e2 := R.inj _ _ (x.lt _ (List.getElem_mem hi)) (x.lt _ (List.getElem_mem hj)) e
    exact (List.getElem?_inj hi x.nd).mp (by rw [List.getElem?_eq_getElem hi, List.getElem?_eq_getElem hj, e2])
  · by_cases hb : b ∈ ids.map φ
    · rw [withouts_self hb] at e; (first | obtain ⟨rfl, rfl⟩ := Prod.mk.inj (Option.some.inj e) | cases e)
    · rw [withouts_other hb] at e; exact e
  · rw [List.length_map] at hk
    refine withouts_self (List.mem_map.mpr ⟨ids.getD k 0, ?_, rfl⟩)
    rw [List.getD_eq_getElem?_getD, List.getElem?_eq_getElem hk]
    exact List.getElem_mem hk
  · rw [withouts_other]
    · exact R.base b o e
    · intro hb
      obtain ⟨i, hi, rfl⟩ := List.mem_map.mp hb
      rw [R.fresh i (x.lt i hi)] at e; (first | obtain ⟨rfl, rfl⟩ := Prod.mk.inj (Option.some.inj e) | cases e)
theorem Framed.back {op as σ av σ' ids K r σ1} (x : Framed op as σ av σ' ids K r σ1) {φ h φ1 h'} (R : Rel g φ σ h)
    (X : Ext (withouts h (ids.map φ)) (fun k => φ (ids.getD k 0)) (ids.map fun i => renO (fun i => ids.idxOf i) (atO σ i)) h φ1 σ1 h') {v} (rv : Rep (withouts h (ids.map φ)) φ1 σ1.length h' r v) :
    ∃ φ', Ext g φ σ h φ' σ' h' ∧ Rep g φ' σ'.length h' av v := by
  have hlen : σ'.length = σ.length + K.length := by rw [x.st, List.length_append, List.length_map, List.length_map, List.length_range]
  have hgid : ∀ k, k < ids.length → ids.getD k 0 ∈ ids := fun k hk => by
    rw [List.getD_eq_getElem?_getD, List.getElem?_eq_getElem hk]; exact List.getElem_mem hk
  have le0 : ids.length ≤ σ1.length := by have := X.le; rwa [List.length_map] at this
  have agr : ∀ k, k < ids.length → φ1 k = φ (ids.getD k 0) := fun k hk => X.agree k (by rw [List.length_map]; exact hk)
  have newK : ∀ j ∈ K, h.get? (φ1 j) = none := fun j hj => X.new j (by rw [List.length_map]; exact (x.klt j hj).1) (x.klt j hj).2
  have oldφ : ∀ i, i < σ.length → ∃ ob, h.get? (φ i) = some ob := fun i hi => let ⟨ob, e, _⟩ := R.objs i _ (List.getElem?_eq_getElem hi); ⟨ob, e⟩
  refine ⟨fun i => if i < σ.length then φ i else φ1 (K.getD (i - σ.length) 0), ?_⟩
  have lo : ∀ i, i < σ.length → (if i < σ.length then φ i else φ1 (K.getD (i - σ.length) 0)) = φ i := fun i hi => if_pos hi
  have hi' : ∀ t, (if σ.length + t < σ.length then φ (σ.length + t) else φ1 (K.getD (σ.length + t - σ.length) 0)) = φ1 (K.getD t 0) := fun t => by
    rw [if_neg (by (first | lia | omega)), Nat.add_sub_cancel_left]
  have hb : ∀ j, (decide (j < ids.length) || K.contains j) = true → (if j < ids.length then ids.getD j 0 else σ.length + K.idxOf j) < σ'.length ∧
      (fun i => if i < σ.length then φ i else φ1 (K.getD (i - σ.length) 0)) (if j < ids.length then ids.getD j 0 else σ.length + K.idxOf j) = φ1 j := fun j hj => by
    dsimp only
    by_cases hj1 : j < ids.length
    · rw [if_pos hj1]
      have := x.lt _ (hgid j hj1)
      exact ⟨by (first | lia | omega), by rw [lo _ this, agr j hj1]⟩
    · rw [if_neg hj1]
      have hm : j ∈ K := by
        rw [Bool.or_eq_true] at hj
        exact List.contains_iff_mem.mp (hj.resolve_left fun h => hj1 (of_decide_eq_true h))
      have hl := List.idxOf_lt_length_of_mem hm
      refine ⟨by (first | lia | omega), ?_⟩
      rw [hi', List.getD_eq_getElem?_getD, idx_get hm]; rfl
  have tupk : ∀ {b items kk}, h.get? b = some (tupObj items kk) → h'.get? b = some (tupObj items kk) := fun {b items kk} e => by
    refine X.rel.base b _ ?_
    rw [withouts_other]
    · exact e
    · intro hbm
      obtain ⟨i, hi, rfl⟩ := List.mem_map.mp hbm
      exact R.apart e (not_mut_tup _ _) i (x.lt i hi) rfl
  have Rl : Rel g (fun i => if i < σ.length then φ i else φ1 (K.getD (i - σ.length) 0)) σ' h' := by
    refine ⟨fun i o e => ?_, fun i j hi hj e => ?_, fun b o e => ?_, fun i hi => ?_⟩
    · skip
      rw [x.st] at e
      by_cases hi : i < σ.length
      · rw [List.getElem?_append_left (by simpa using hi), List.getElem?_map, List.getElem?_range hi] at e
        (first | obtain ⟨rfl, rfl⟩ := Prod.mk.inj (Option.some.inj e) | cases e)
        rw [lo i hi]
        dsimp only
        by_cases hc : ids.contains i = true
        · rw [if_pos hc]
          have hm : i ∈ ids := List.contains_iff_mem.mp hc
          have hk := List.idxOf_lt_length_of_mem hm
          obtain ⟨ob, h1, h2⟩ := X.rel.objs (ids.idxOf i) _ (atO_get (by (first | lia | omega)))
          have e0 : φ1 (ids.idxOf i) = φ i := by rw [agr _ hk, List.getD_eq_getElem?_getD, idx_get hm]; rfl
          rw [e0] at h1
          exact ⟨ob, h1, h2.ren hb (x.ok1 _ hk)⟩
        · rw [if_neg hc]
          obtain ⟨ob, h1, h2⟩ := R.objs i _ (atO_get hi)
          refine ⟨ob, X.rel.base _ _ ?_, h2.keeps (fun id hid => lo id hid) (by (first | lia | omega)) fun _ _ _ => tupk⟩
          rw [withouts_other]
          · exact h1
          · intro hbm
            obtain ⟨j, hj, he⟩ := List.mem_map.mp hbm
            have := R.inj _ _ (x.lt j hj) hi he
            exact hc (List.contains_iff_mem.mpr (this ▸ hj))
      · rw [List.getElem?_append_right (by simpa using Nat.not_lt.mp hi)] at e
        simp only [List.length_map, List.length_range, List.getElem?_map] at e
        cases hj : K[i - σ.length]? with
        | none => rw [hj] at e; (first | obtain ⟨rfl, rfl⟩ := Prod.mk.inj (Option.some.inj e) | cases e)
        | some j =>
          rw [hj] at e
          (first | obtain ⟨rfl, rfl⟩ := Prod.mk.inj (Option.some.inj e) | cases e)
          have hm := List.mem_of_getElem? hj
          rw [if_neg hi, List.getD_eq_getElem?_getD, hj]
          obtain ⟨ob, h1, h2⟩ := X.rel.objs j _ (atO_get (x.klt j hm).2)
          exact ⟨ob, h1, h2.ren hb (x.okk j hm)⟩
    · skip
      rw [hlen] at hi hj
      have gK : ∀ t, t < K.length → K.getD t 0 ∈ K ∧ K[t]? = some (K.getD t 0) := fun t ht => by
        rw [List.getD_eq_getElem?_getD, List.getElem?_eq_getElem ht]; exact ⟨List.getElem_mem ht, rfl⟩
      by_cases h1 : i < σ.length
      · rw [lo i h1] at e
        by_cases h2 : j < σ.length
        · rw [lo j h2] at e; exact R.inj i j h1 h2 e
        · rw [if_neg h2] at e
          obtain ⟨ob, eo⟩ := oldφ i h1
          rw [e, newK _ (gK _ (by (first | lia | omega))).1] at eo; cases eo
      · rw [if_neg h1] at e
        by_cases h2 : j < σ.length
        · rw [lo j h2] at e
          obtain ⟨ob, eo⟩ := oldφ j h2
          rw [← e, newK _ (gK _ (by (first | lia | omega))).1] at eo; cases eo
        · rw [if_neg h2] at e
          have a1 := gK (i - σ.length) (by (first | lia | omega))
          have a2 := gK (j - σ.length) (by (first | lia | omega))
          have := X.rel.inj _ _ (x.klt _ a1.1).2 (x.klt _ a2.1).2 e
          have := (List.getElem?_inj (by (first | lia | omega)) x.knd).mp (a1.2.trans ((congrArg some this).trans a2.2.symm))
          (first | lia | omega)
    · refine X.rel.base b o ?_
      rw [withouts_other]
      · exact R.base b o e
      · intro hbm
        obtain ⟨i, hi, rfl⟩ := List.mem_map.mp hbm
        rw [R.fresh i (x.lt i hi)] at e; (first | obtain ⟨rfl, rfl⟩ := Prod.mk.inj (Option.some.inj e) | cases e)
    · skip
      by_cases h1 : i < σ.length
      · rw [lo i h1]; exact R.fresh i h1
      · rw [if_neg h1]
        rw [hlen] at hi
        have hm : K.getD (i - σ.length) 0 ∈ K := by rw [List.getD_eq_getElem?_getD, List.getElem?_eq_getElem (by (first | lia | omega))]; exact List.getElem_mem _
        exact base_none R (newK _ hm)
  refine ⟨⟨R, Rl, fun i hi => lo i hi, by (first | lia | omega), fun b o e hne => X.rel.base b o ?_, fun i h1 h2 => ?_⟩, ?_⟩
  · rw [withouts_other]
    · exact e
    · intro hbm
      obtain ⟨i, hi, rfl⟩ := List.mem_map.mp hbm
      exact hne i (x.lt i hi) rfl
  · skip
    rw [if_neg (by (first | lia | omega))]
    have hm : K.getD (i - σ.length) 0 ∈ K := by rw [List.getD_eq_getElem?_getD, List.getElem?_eq_getElem (by (first | lia | omega))]; exact List.getElem_mem _
    exact newK _ hm
  · rw [x.av]
    exact rv.ren hb x.okr
theorem prim_frameG {f : Value} {op : CF} (hp : ∀ g', (∀ b o, g.get? b = some o → g'.get? b = some o) → PrimC prog w g' k f op) : PrimC prog w g k f (frameG op) := by
  intro A s φ σ as vs hA R r av σ' e Q E h
  obtain ⟨ids, K, r0, σ1, x⟩ := framed_of e
  obtain ⟨R', hk, hf⟩ := x.small R
  refine hp _ hk A s _ _ _ vs hA R' (Reps.ren hf r x.ok) _ _ x.run Q E fun v h' tk φ1 X rv => ?_
  obtain ⟨φ', X', rv'⟩ := x.back R X rv
  exact h v h' tk φ' X' rv'
theorem prim_frameGC {f : Value} {op : CF} (hp : ∀ g', (∀ b o, g.get? b = some o → g'.get? b = some o) → PrimCC prog w g' k f op) : PrimCC prog w g k f (frameG op) := by
  intro A s φ σ as vs hA R r av σ' e Q E h
  obtain ⟨ids, K, r0, σ1, x⟩ := framed_of e
  obtain ⟨R', hk, hf⟩ := x.small R
  refine hp _ hk A s _ _ _ vs hA R' (Reps.ren hf r x.ok) _ _ x.run Q E fun v h' tk φ1 X rv => ?_
  obtain ⟨φ', X', rv'⟩ := x.back R X rv
  exact h v h' tk φ' X' rv'
end
end Mine
end
section
set_option maxRecDepth 100000
namespace Mine
/-! frames worked out -/
noncomputable abbrev nr (a : AV) : Bool := okV (fun _ => false) a
noncomputable abbrev nrs (as : List AV) : Bool := okVs (fun _ => false) as
mutual
theorem nr_ok {p : Nat → Bool} : ∀ {a : AV}, nr a = true → okV p a = true
  | .con _, _ => rfl
  | .bool _, _ => rfl
  | .int _, _ => rfl
  | .str _, _ => rfl
  | .bytes _, _ => rfl
  | .tup _, h => nrs_ok (p := p) h
  | .blist _, h => by cases h
  | .ref _, h => by cases h
theorem nrs_ok {p : Nat → Bool} : ∀ {as : List AV}, nrs as = true → okVs p as = true
  | [], _ => rfl
  | a :: as, h => by
    have h' : (okV (fun _ => false) a && okVs (fun _ => false) as) = true := h
    rw [Bool.and_eq_true] at h'
    show (okV p a && okVs p as) = true
    rw [nr_ok h'.1, nrs_ok h'.2]; rfl
end
mutual
theorem nr_ren {f : Nat → Nat} : ∀ {a : AV}, nr a = true → renV f a = a
  | .con _, _ => rfl
  | .bool _, _ => rfl
  | .int _, _ => rfl
  | .str _, _ => rfl
  | .bytes _, _ => rfl
  | .tup _, h => congrArg AV.tup (nrs_ren (f := f) h)
  | .blist _, h => by cases h
  | .ref _, h => by cases h
theorem nrs_ren {f : Nat → Nat} : ∀ {as : List AV}, nrs as = true → renVs f as = as
  | [], _ => rfl
  | a :: as, h => by
    have h' : (okV (fun _ => false) a && okVs (fun _ => false) as) = true := h
    rw [Bool.and_eq_true] at h'
    show renV f a :: renVs f as = a :: as
    rw [nr_ren h'.1, nrs_ren h'.2]
end
mutual
theorem nr_refs : ∀ {a : AV}, nr a = true → refsV a = []
  | .con _, _ => rfl
  | .bool _, _ => rfl
  | .int _, _ => rfl
  | .str _, _ => rfl
  | .bytes _, _ => rfl
  | .tup _, h => nrs_refs h
  | .blist _, h => by cases h
  | .ref _, h => by cases h
theorem nrs_refs : ∀ {as : List AV}, nrs as = true → refsVs as = []
  | [], _ => rfl
  | a :: as, h => by
    have h' : (okV (fun _ => false) a && okVs (fun _ => false) as) = true := h
    rw [Bool.and_eq_true] at h'
    show refsV a ++ refsVs as = []
    rw [nr_refs h'.1, nrs_refs h'.2]; rfl
end
theorem refsVs_append : ∀ (as bs : List AV), refsVs (as ++ bs) = refsVs as ++ refsVs bs
  | [], _ => rfl
  | a :: as, bs => by
    show refsV a ++ refsVs (as ++ bs) = refsV a ++ refsVs as ++ refsVs bs
    rw [refsVs_append as bs, List.append_assoc]
theorem okVs_append {p : Nat → Bool} : ∀ (as bs : List AV), okVs p (as ++ bs) = (okVs p as && okVs p bs)
  | [], _ => rfl
  | a :: as, bs => by
    show (okV p a && okVs p (as ++ bs)) = (okV p a && okVs p as && okVs p bs)
    rw [okVs_append as bs, Bool.and_assoc]
theorem renVs_append {f : Nat → Nat} : ∀ (as bs : List AV), renVs f (as ++ bs) = renVs f as ++ renVs f bs
  | [], _ => rfl
  | a :: as, bs => by
    show renV f a :: renVs f (as ++ bs) = _
    rw [renVs_append as bs]; rfl
theorem nrs_ints : ∀ ns : List Int, nrs (ns.map .int) = true
  | [] => rfl
  | n :: ns => by
    show (true && okVs _ (ns.map .int)) = true
    rw [Bool.true_and]; exact nrs_ints ns
theorem nrs_strs : ∀ ns : List Str, nrs (ns.map .str) = true
  | [] => rfl
  | n :: ns => by
    show (true && okVs _ (ns.map .str)) = true
    rw [Bool.true_and]; exact nrs_strs ns
theorem range_atO : ∀ (σ : St), (List.range σ.length).map (fun i => atO σ i) = σ := by
  intro σ
  apply List.ext_getElem?
  intro i
  rw [List.getElem?_map]
  by_cases hi : i < σ.length
  · rw [List.getElem?_range hi, atO_get hi]; rfl
  · rw [List.getElem?_eq_none (by simpa using hi), List.getElem?_eq_none (by simpa using hi)]; rfl
/-- the answer's part of a frame: what stands behind the call in the small state becomes what stands behind it in the large one -/
structure Adopts (ids : List Nat) (σ : St) (r : AV) (σ1 : St) (av : AV) (τ : St) : Prop where
  K : ∃ K, (reach σ1 (refsV r)).filter (fun j => decide (ids.length ≤ j)) = K ∧ K.Nodup ∧ (K.all fun j => decide (ids.length ≤ j) && decide (j < σ1.length)) = true ∧ okV (fun j => decide (j < ids.length) || K.contains j) r = true ∧
    (K.all fun j => okO (fun j => decide (j < ids.length) || K.contains j) (atO σ1 j)) = true ∧ av = renV (fun j => if j < ids.length then ids.getD j 0 else σ.length + K.idxOf j) r ∧ τ = K.map fun j => renO (fun j => if j < ids.length then ids.getD j 0 else σ.length + K.idxOf j) (atO σ1 j)
theorem adopt_none {ids : List Nat} {σ : St} {r : AV} {σ1 : St} (h : nr r = true) : Adopts ids σ r σ1 r [] := by
  refine ⟨[], ?_, List.nodup_nil, rfl, nr_ok h, rfl, (nr_ren h).symm, rfl⟩
  rw [nr_refs h]; rfl
theorem adopt_list {ids : List Nat} {σ : St} {j : Nat} {σ1 : St} {ys : List AV} (hj : ids.length ≤ j) (hy : σ1[j]? = some (.list ys)) (h : nrs ys = true) : Adopts ids σ (.ref j) σ1 (.ref σ.length) [.list ys] := by
  have hat := atO_eq hy
  have hlt : j < σ1.length := (List.getElem?_eq_some_iff.mp hy).1
  have hr : reach σ1 [j] = [j] := by
    unfold reach
    show addNew [j] ([j].flatMap fun i => refsO (atO σ1 i)) = [j]
    simp only [List.flatMap_cons, List.flatMap_nil, hat, refsO, nrs_refs h]
    rfl
  refine ⟨[j], ?_, by simp, by simp [hj, hlt], ?_, ?_, ?_, ?_⟩
  · show (reach σ1 [j]).filter _ = _
    rw [hr]
    simp [hj]
  · show (decide (j < ids.length) || [j].contains j) = true
    simp
  · simp only [List.all_cons, List.all_nil, hat, okO, nrs_ok h, Bool.and_self]
  · show AV.ref _ = AV.ref (if j < ids.length then _ else σ.length + [j].idxOf j)
    rw [if_neg (by (first | lia | omega))]
    simp
  · simp only [List.map_cons, List.map_nil, hat, renO, nrs_ren h]
theorem adopt_int_list {ids : List Nat} {σ : St} {n : Int} {j : Nat} {σ1 : St} {ys : List AV} (hj : ids.length ≤ j) (hy : σ1[j]? = some (.list ys)) (h : nrs ys = true) : Adopts ids σ (.tup [.int n, .ref j]) σ1 (.tup [.int n, .ref σ.length]) [.list ys] := by
  have hat := atO_eq hy
  have hlt : j < σ1.length := (List.getElem?_eq_some_iff.mp hy).1
  have hr : reach σ1 [j] = [j] := by
    unfold reach
    show addNew [j] ([j].flatMap fun i => refsO (atO σ1 i)) = [j]
    simp only [List.flatMap_cons, List.flatMap_nil, hat, refsO, nrs_refs h]
    rfl
  refine ⟨[j], ?_, by simp, by simp [hj, hlt], ?_, ?_, ?_, ?_⟩
  · show (reach σ1 [j]).filter _ = _
    rw [hr]
    simp [hj]
  · show (true && ((decide (j < ids.length) || [j].contains j) && true)) = true
    simp
  · simp only [List.all_cons, List.all_nil, hat, okO, nrs_ok h, Bool.and_self]
  · show AV.tup [.int n, AV.ref _] = AV.tup [.int n, AV.ref (if j < ids.length then _ else σ.length + [j].idxOf j)]
    rw [if_neg (by (first | lia | omega))]
    simp
  · simp only [List.map_cons, List.map_nil, hat, renO, nrs_ren h]

/-- no object among the arguments -/
theorem frame0 {op : CF} {as : List AV} {σ : St} {r : AV} {σ1 : St} {av : AV} {τ : St} (ha : nrs as = true) (h : op as [] = some (r, σ1)) (x : Adopts [] σ r σ1 av τ) : frameG op as σ = some (av, σ ++ τ) := by
  obtain ⟨K, e, k1, k2, k3, k4, k5, k6⟩ := x
  have hid : reach σ (refsVs as) = [] := by rw [nrs_refs ha]; rfl
  unfold frameG
  simp only [hid]
  rw [if_pos ⟨List.nodup_nil, rfl, nrs_ok ha, rfl⟩, nrs_ren ha]
  show (op as []).bind _ = _
  rw [h, Option.bind_some]
  dsimp only
  rw [e, if_pos ⟨k1, k2, k3, rfl, k4⟩, k5, k6]
  congr 2
  congr 1
  exact (range_atO σ)
/-- one list among the arguments, that the call leaves as it is -/
theorem frame1 {op : CF} {pre post : List AV} {id : Nat} {xs : List AV} {σ : St} {r : AV} {σ1 : St} {av : AV} {τ : St} (hp : nrs pre = true) (hq : nrs post = true) (hσ : σ[id]? = some (.list xs)) (hx : nrs xs = true)
    (h : op (pre ++ .ref 0 :: post) [.list xs] = some (r, σ1)) (h0 : σ1[0]? = some (.list xs)) (x : Adopts [id] σ r σ1 av τ) : frameG op (pre ++ .ref id :: post) σ = some (av, σ ++ τ) := by
  obtain ⟨K, e, k1, k2, k3, k4, k5, k6⟩ := x
  have hat := atO_eq hσ
  have hat0 := atO_eq h0
  have hlt : id < σ.length := (List.getElem?_eq_some_iff.mp hσ).1
  have hid : reach σ (refsVs (pre ++ .ref id :: post)) = [id] := by
    rw [refsVs_append, nrs_refs hp]
    have : refsVs (.ref id :: post) = [id] := by show [id] ++ refsVs post = _; rw [nrs_refs hq]; rfl
    rw [this]
    unfold reach
    show addNew [id] ([id].flatMap fun i => refsO (atO σ i)) = [id]
    simp only [List.flatMap_cons, List.flatMap_nil, hat, refsO, nrs_refs hx]
    rfl
  have e0 : ([id].idxOf id) = 0 := by simp
  unfold frameG
  simp only [hid]
  rw [if_pos]
  · rw [renVs_append, nrs_ren hp]
    have e1 : renVs (fun i => [id].idxOf i) (.ref id :: post) = .ref 0 :: post := by
      show AV.ref ([id].idxOf id) :: renVs _ post = _
      rw [nrs_ren hq, e0]
    rw [e1]
    have e2 : ([id].map fun i => renO (fun i => [id].idxOf i) (atO σ i)) = [.list xs] := by simp only [List.map_cons, List.map_nil, hat, renO, nrs_ren hx]
    rw [e2, h, Option.bind_some]
    dsimp only
    have k0 : ((List.range [id].length).all fun k => okO (fun j => decide (j < [id].length) || K.contains j) (atO σ1 k)) = true := by
      show ([0].all fun k => okO _ (atO σ1 k)) = true
      simp only [List.all_cons, List.all_nil, hat0, okO, nrs_ok hx, Bool.and_self]
    rw [e, if_pos ⟨k1, k2, k3, k0, k4⟩, k5, k6]
    · congr 2
      congr 1
      conv => rhs; rw [← range_atO σ]
      apply List.map_congr_left
      intro i hi
      by_cases hc : [id].contains i = true
      · rw [if_pos hc]
        have : i = id := by simpa using hc
        subst this
        rw [e0, hat0, hat]
        simp only [renO, nrs_ren hx]
      · rw [if_neg hc]
  · refine ⟨by simp, by simp [hlt], ?_, ?_⟩
    · rw [okVs_append, nrs_ok hp]
      show (true && ([id].contains id && okVs _ post)) = true
      rw [nrs_ok hq]
      simp
    · simp only [List.all_cons, List.all_nil, hat, okO, nrs_ok hx, Bool.and_self]
end Mine
end
section
set_option maxRecDepth 100000
namespace Mine
/-! what an iterator will give, while the state stays within P -/
noncomputable def Yields (tt : Bool) (P : St → Prop) : It → List AV → Prop
  | it, [] => tgtB tt it = true ∧ ∀ σ, P σ → itNext it σ = some none
  | it, a :: as => tgtB tt it = true ∧ ∃ it', (∀ σ, P σ → itNext it σ = some (some (a, it'))) ∧ Yields tt P it' as
theorem yields_range {tt : Bool} {P : St → Prop} : ∀ (k : Nat) (c st : Int), Yields tt P (.range c st k) (rngVals c st k)
  | 0, _, _ => ⟨rfl, fun _ _ => rfl⟩
  | k + 1, c, st => ⟨rfl, .range (c + st) st k, fun _ _ => rfl, yields_range k (c + st) st⟩
theorem yields_tup {tt : Bool} {P : St → Prop} {vs : List AV} : ∀ (n i : Nat), n + i = vs.length → Yields tt P (.tup vs i) (vs.drop i)
  | 0, i, h => by
    rw [List.drop_eq_nil_of_le (by (first | lia | omega))]
    refine ⟨rfl, fun σ _ => ?_⟩
    show (match vs[i]? with | some x => some (some (x, It.tup vs (i + 1))) | none => some none) = _
    rw [List.getElem?_eq_none (by (first | lia | omega))]
  | n + 1, i, h => by
    have hi : i < vs.length := by (first | lia | omega)
    rw [List.drop_eq_getElem_cons hi]
    refine ⟨rfl, .tup vs (i + 1), fun σ _ => ?_, yields_tup n (i + 1) (by (first | lia | omega))⟩
    show (match vs[i]? with | some x => some (some (x, It.tup vs (i + 1))) | none => some none) = _
    rw [List.getElem?_eq_getElem hi]
theorem yields_list {tt : Bool} {P : St → Prop} {id : Nat} {xs : List AV} (hP : ∀ σ, P σ → σ[id]? = some (.list xs)) : ∀ (n i : Nat), n + i = xs.length → Yields tt P (.list id i) (xs.drop i)
  | 0, i, h => by
    rw [List.drop_eq_nil_of_le (by (first | lia | omega))]
    refine ⟨rfl, fun σ hσ => ?_⟩
    show (match σ[id]? with | some (AO.list xs) => (match xs[i]? with | some x => some (some (x, It.list id (i + 1))) | none => some none) | _ => none) = _
    rw [hP σ hσ]
    dsimp only
    rw [List.getElem?_eq_none (by (first | lia | omega))]
  | n + 1, i, h => by
    have hi : i < xs.length := by (first | lia | omega)
    rw [List.drop_eq_getElem_cons hi]
    refine ⟨rfl, .list id (i + 1), fun σ hσ => ?_, yields_list hP n (i + 1) (by (first | lia | omega))⟩
    show (match σ[id]? with | some (AO.list xs) => (match xs[i]? with | some x => some (some (x, It.list id (i + 1))) | none => some none) | _ => none) = _
    rw [hP σ hσ]
    dsimp only
    rw [List.getElem?_eq_getElem hi]
/-- the pairs of an enumeration -/
noncomputable def enumV : Nat → List AV → List AV
  | _, [] => []
  | i, x :: xs => .tup [.int i, x] :: enumV (i + 1) xs
theorem enumV_length : ∀ (xs : List AV) (i : Nat), (enumV i xs).length = xs.length
  | [], _ => rfl
  | x :: xs, i => by show (enumV (i + 1) xs).length + 1 = xs.length + 1; rw [enumV_length xs]
theorem yields_enum {P : St → Prop} {id : Nat} {xs : List AV} (hP : ∀ σ, P σ → σ[id]? = some (.list xs)) : ∀ (n i : Nat), n + i = xs.length → Yields true P (.enumL id i) (enumV i (xs.drop i))
  | 0, i, h => by
    rw [List.drop_eq_nil_of_le (by (first | lia | omega))]
    refine ⟨rfl, fun σ hσ => ?_⟩
    show (match σ[id]? with | some (AO.list xs) => (match xs[i]? with | some x => some (some (AV.tup [.int i, x], It.enumL id (i + 1))) | none => some none) | _ => none) = _
    rw [hP σ hσ]
    dsimp only
    rw [List.getElem?_eq_none (by (first | lia | omega))]
  | n + 1, i, h => by
    have hi : i < xs.length := by (first | lia | omega)
    rw [List.drop_eq_getElem_cons hi]
    refine ⟨rfl, .enumL id (i + 1), fun σ hσ => ?_, yields_enum hP n (i + 1) (by (first | lia | omega))⟩
    show (match σ[id]? with | some (AO.list xs) => (match xs[i]? with | some x => some (some (AV.tup [.int i, x], It.enumL id (i + 1))) | none => some none) | _ => none) = _
    rw [hP σ hσ]
    dsimp only
    rw [List.getElem?_eq_getElem hi]

/-! loops by an invariant: what is still to come, the frame, the state -/
theorem for_run {tt : Bool} {P : St → Prop} {tf : AF} {bf ef : SF} (I : List AV → Fm → St → Prop) (hP : ∀ as ρ σ, I as ρ σ → P σ)
    (step : ∀ a as ρ σ, I (a :: as) ρ σ → ∃ ρ1 σ1 ρ2 σ2, tf a ρ σ = some (ρ1, σ1) ∧ bf ρ1 σ1 = some (.next, ρ2, σ2) ∧ I as ρ2 σ2) :
    ∀ (items : List AV) (it : It) (n : Nat) (ρ : Fm) (σ : St), Yields tt P it items → items.length < n → I items ρ σ → ∃ ρ' σ', forGo tt tf bf ef n it ρ σ = ef ρ' σ' ∧ I [] ρ' σ'
  | [], it, n, ρ, σ, hy, hn, hI => by
    obtain ⟨m, rfl⟩ : ∃ m, n = m + 1 := ⟨n - 1, by (first | lia | omega)⟩
    refine ⟨ρ, σ, ?_, hI⟩
    show (if tgtB tt it = true then (itNext it σ).bind _ else none) = _
    rw [if_pos hy.1, hy.2 σ (hP _ _ _ hI)]
    rfl
  | a :: as, it, n, ρ, σ, hy, hn, hI => by
    obtain ⟨m, rfl⟩ : ∃ m, n = m + 1 := ⟨n - 1, by (first | lia | omega)⟩
    obtain ⟨h1, it', h2, h3⟩ := hy
    obtain ⟨ρ1, σ1, ρ2, σ2, e1, e2, hI'⟩ := step a as ρ σ hI
    obtain ⟨ρ', σ', e, hE⟩ := for_run (ef := ef) I hP step as it' m ρ2 σ2 h3 (by simp at hn; (first | lia | omega)) hI'
    refine ⟨ρ', σ', ?_, hE⟩
    refine Eq.trans ?_ e
    show (if tgtB tt it = true then (itNext it σ).bind _ else none) = _
    rw [if_pos h1, h2 σ (hP _ _ _ hI)]
    show (tf a ρ σ).bind _ = _
    rw [e1, Option.bind_some, e2]
    rfl
theorem comp_run {tt : Bool} {P : St → Prop} {tf : AF} {ts : TF} {ef : EF} (I : List AV → List AV → Fm → St → Prop) (hP : ∀ as out ρ σ, I as out ρ σ → P σ)
    (step : ∀ a as out ρ σ, I (a :: as) out ρ σ → ∃ ρ1 σ1 b σ2, tf a ρ σ = some (ρ1, σ1) ∧ ts ρ1 σ1 = some (b, σ2) ∧ (b = true → ∃ v σ3, ef ρ1 σ2 = some (v, σ3) ∧ I as (out ++ [v]) ρ1 σ3) ∧ (b = false → I as out ρ1 σ2)) :
    ∀ (items : List AV) (it : It) (n : Nat) (out : List AV) (ρ : Fm) (σ : St), Yields tt P it items → items.length < n → I items out ρ σ → ∃ zs ρ' σ', compGo tt tf ts ef n it ρ σ = some (zs, σ') ∧ I [] (out ++ zs) ρ' σ'
  | [], it, n, out, ρ, σ, hy, hn, hI => by
    obtain ⟨m, rfl⟩ : ∃ m, n = m + 1 := ⟨n - 1, by (first | lia | omega)⟩
    refine ⟨[], ρ, σ, ?_, by rw [List.append_nil]; exact hI⟩
    show (if tgtB tt it = true then (itNext it σ).bind _ else none) = _
    rw [if_pos hy.1, hy.2 σ (hP _ _ _ _ hI)]
    rfl
  | a :: as, it, n, out, ρ, σ, hy, hn, hI => by
    obtain ⟨m, rfl⟩ : ∃ m, n = m + 1 := ⟨n - 1, by (first | lia | omega)⟩
    obtain ⟨h1, it', h2, h3⟩ := hy
    obtain ⟨ρ1, σ1, b, σ2, e1, e2, ht, hf⟩ := step a as out ρ σ hI
    have hlen : as.length < m := by simp at hn; (first | lia | omega)
    cases b with
    | true =>
      obtain ⟨v, σ3, e3, hI'⟩ := ht rfl
      obtain ⟨zs, ρ', σ', e, hE⟩ := comp_run I hP step as it' m (out ++ [v]) ρ1 σ3 h3 hlen hI'
      refine ⟨v :: zs, ρ', σ', ?_, by rwa [List.append_assoc] at hE⟩
      show (if tgtB tt it = true then (itNext it σ).bind _ else none) = _
      rw [if_pos h1, h2 σ (hP _ _ _ _ hI)]
      show (tf a ρ σ).bind _ = _
      rw [e1, Option.bind_some, e2, Option.bind_some]
      dsimp only
      rw [if_pos rfl, e3, Option.bind_some, e]
      rfl
    | false =>
      obtain ⟨zs, ρ', σ', e, hE⟩ := comp_run I hP step as it' m out ρ1 σ2 h3 hlen (hf rfl)
      refine ⟨zs, ρ', σ', ?_, hE⟩
      show (if tgtB tt it = true then (itNext it σ).bind _ else none) = _
      rw [if_pos h1, h2 σ (hP _ _ _ _ hI)]
      show (tf a ρ σ).bind _ = _
      rw [e1, Option.bind_some, e2, Option.bind_some]
      dsimp only
      rw [if_neg (by decide)]
      exact e
/-- a comprehension that leaves the state as it is -/
theorem comp_pure {tt : Bool} {tf : AF} {ts : TF} {ef : EF} {σ : St} (Fr : Fm → Prop) (out : AV → Option AV) : ∀ (items : List AV) (it : It) (n : Nat) (ρ : Fm), Yields tt (fun s => s = σ) it items → items.length < n → Fr ρ →
    (∀ a ∈ items, ∀ ρ, Fr ρ → ∃ ρ1, Fr ρ1 ∧ tf a ρ σ = some (ρ1, σ) ∧ ((∃ v, out a = some v ∧ ts ρ1 σ = some (true, σ) ∧ ef ρ1 σ = some (v, σ)) ∨ (out a = none ∧ ts ρ1 σ = some (false, σ)))) →
    compGo tt tf ts ef n it ρ σ = some (items.filterMap out, σ)
  | [], it, n, ρ, hy, hn, _, _ => by
    obtain ⟨m, rfl⟩ : ∃ m, n = m + 1 := ⟨n - 1, by (first | lia | omega)⟩
    show (if tgtB tt it = true then (itNext it σ).bind _ else none) = _
    rw [if_pos hy.1, hy.2 σ rfl]
    rfl
  | a :: as, it, n, ρ, hy, hn, hr, step => by
    obtain ⟨m, rfl⟩ : ∃ m, n = m + 1 := ⟨n - 1, by (first | lia | omega)⟩
    obtain ⟨h1, it', h2, h3⟩ := hy
    obtain ⟨ρ1, hr1, e1, hc⟩ := step a (List.mem_cons_self ..) ρ hr
    have ih := comp_pure Fr out as it' m ρ1 h3 (by simp at hn; (first | lia | omega)) hr1 fun b hb => step b (List.mem_cons_of_mem _ hb)
    show (if tgtB tt it = true then (itNext it σ).bind _ else none) = _
    rw [if_pos h1, h2 σ rfl]
    show (tf a ρ σ).bind _ = _
    rw [e1, Option.bind_some]
    rcases hc with ⟨v, o1, e2, e3⟩ | ⟨o1, e2⟩
    · rw [e2, Option.bind_some]
      dsimp only
      rw [if_pos rfl, e3, Option.bind_some, ih, List.filterMap_cons, o1]
      rfl
    · rw [e2, Option.bind_some]
      dsimp only
      rw [if_neg (by decide), ih, List.filterMap_cons, o1]
theorem rngVals_eq (c st : Int) : ∀ k, rngVals c st k = (List.range k).map fun (i : Nat) => AV.int (c + (i : Int) * st) := by
  intro k
  induction k generalizing c with
  | zero => rfl
  | succ k ih =>
    rw [rngVals, ih, List.range_succ_eq_map, List.map_cons, List.map_map]
    congr 1
    · simp
    · apply List.map_congr_left
      intro i _
      show AV.int _ = AV.int _
      congr 1
      rw [show ((Nat.succ i : Nat) : Int) = (i : Int) + 1 by (first | lia | omega), Int.add_mul, Int.one_mul]
      (first | lia | omega)
/-- statements one behind the other -/
theorem seq_next {f fs : SF} {ρ ρ1 : Fm} {σ σ1 : St} (h : f ρ σ = some (.next, ρ1, σ1)) : seqS f fs ρ σ = fs ρ1 σ1 := by
  unfold seqS
  rw [h]
  rfl
theorem seq_ret {f fs : SF} {ρ ρ1 : Fm} {σ σ1 : St} {v : AV} (h : f ρ σ = some (.ret v, ρ1, σ1)) : seqS f fs ρ σ = some (.ret v, ρ1, σ1) := by
  unfold seqS
  rw [h]
  rfl
theorem get_new {σ : St} {o : AO} : (σ ++ [o])[σ.length]? = some o := by simp
theorem get_old {σ : St} {o : AO} {i : Nat} {τ : St} (h : σ[i]? = some o) : (σ ++ τ)[i]? = some o := by
  rw [List.getElem?_append_left (List.getElem?_eq_some_iff.mp h).1]; exact h
end Mine
end
section
set_option maxRecDepth 100000
namespace Mine
/-! the head of an open law, for clean contexts: the caller's own context has nothing below it -/
theorem caller_clean : Clean ⟨.builtin "claim.caller" {}, none, none, [], none⟩ := ⟨by decide +kernel, fun _ h => nomatch h⟩
theorem thread_endsC {prog : Program} {w : World} {t : Sem PySem.Fin} {s : Shared} {R : Result → Shared → Prop} (hreg : s.asleep)
    (h : wpC (model prog w) callerA t (fun fin s' => ∃ f, fin = .done f ∧ (R (.ok f) s' ∧ leftWithCleanup s'.gens = false)) (fun e s' => R (.error e) s' ∧ leftWithCleanup s'.gens = false) s) :
    ∃ n r s' s'', runN (denote table) prog w n s ⟨t, .builtin "claim.caller" {}, default, []⟩ = .halted (outcomeOf r) s' ∧
      schedN (denote table) prog w n (.single s ⟨t, .builtin "claim.caller" {}, default, []⟩) = .halted (outcomeOf r) s' ∧ s'.forget = s''.forget ∧ R r s'' := by
  have hw : Sem.wp (model prog w) ⟨.builtin "claim.caller" {}, none, none, [], none⟩ t (Sem.finPost (model prog w) ⟨.builtin "claim.caller" {}, none, none, [], none⟩ fun r s' => R r s' ∧ leftWithCleanup s'.gens = false)
      (fun e _ s' => R (.error e) s' ∧ leftWithCleanup s'.gens = false) default s :=
    Sem.wp_mono _ _ t (fun fin p' s' h' => by obtain ⟨f, rfl, hf⟩ := h'; exact hf) (fun _ _ _ h' => h') default s (h _ default caller_in caller_clean)
  obtain ⟨n, r, s₁, s₂, hs, hn, hfo, hR⟩ := wp_halts_full (M := model prog w) (R := R) hreg hw
  exact ⟨n, r, s₂, s₁, hn, hs, hfo, hR⟩
theorem callFromC {c : ClaimW} {tree : List Value → Sem PySem.Fin} {w : World} {s : Shared} {free : Addr → Prop} {gens : Prop} {kept : Heap → Prop} (hz : s.asleep) (hgens : s.gens = #[])
    (hspec : ∀ args, c.pre args = true → WData.layableAll args = true → ∀ ord : List DictEntry → List DictEntry, (∀ l, (ord l).Perm l) →
      ∃ vs s₁, layAllW c.records (classAt s.heap) w.params ord args s = some (vs, s₁) ∧
        wpC (model c.prog w) callerA (tree vs) (fun fin s' => ∃ f, fin = .done f ∧ (c.Ends s args vs s₁ (.ok f) s' ∧ s'.os = s.os ∧ AllBare s'.gens ∧ kept s'.heap))
          (fun e s' => c.Ends s args vs s₁ (.error e) s' ∧ s'.os = s.os ∧ AllBare s'.gens ∧ kept s'.heap) s₁) :
    c.CallFrom (fun vs => ⟨tree vs, .builtin "claim.caller" {}, default, []⟩) w free gens kept s := by
  intro args hpre hlay ord hord
  obtain ⟨vs, s₁, hlaid, hcode⟩ := hspec args hpre hlay ord hord
  have hal := layAllW_rest _ _ _ hlaid
  obtain ⟨k, r, s', s'', hrun, hsched, hfo, hcase, hos, hkp⟩ := thread_endsC (prog := c.prog) (w := w) (t := tree vs) (s := s₁)
    (R := fun r s' => c.Ends s args vs s₁ r s' ∧ s'.os = s.os ∧ kept s'.heap) (Shared.asleep_of_life hal.2.2.2 hz)
    (wpC_mono hcode (by
      rintro fin s' ⟨f, e, h1, h2, h3, h4⟩
      exact ⟨f, e, ⟨h1, h2, h4⟩, leftWithCleanup_false_of_bare h3⟩) (by
      rintro e s' ⟨h1, h2, h3, h4⟩
      exact ⟨⟨h1, h2, h4⟩, leftWithCleanup_false_of_bare h3⟩))
  obtain ⟨eh, eg, _, eo, _⟩ := Shared.forget_eq hfo
  have hcase := hcase.congr eh
  have hkp : kept s'.heap := by first | exact eh ▸ hkp | (rw [eh] at hkp; exact hkp) | (rw [← eh] at hkp; exact hkp)
  rw [← eo] at hos
  have hlife : s'.heap.life = s.heap.life := (runN_life _ _ _ hrun).trans hal.2.2.2
  refine ⟨vs, s₁, hlaid, k, _, s', hsched, ?_, (fun _ i x hx => by rw [hgens] at hx; simp at hx), hkp, by rw [hlife], Shared.rest_eq hos⟩
  rcases hcase with ⟨v, rfl, d1, d2, d3, d4, d5⟩ | ⟨e, ob, cls, rfl, d1, d2, d3, d4, d5⟩
  · exact .inl ⟨v, rfl, d1, d2, d3, fun b o y _ => d4 b o y, d5⟩
  · exact .inr ⟨e, ob, cls, rfl, d1, d2, d3, d4, fun b o y _ => d5 b o y⟩

noncomputable abbrev WalkC (q : Program) (loose : List Str) (XP : (Str → Option Value) → Heap → Prop) (YP : World → Heap → Prop) (r : RowW) (d : DefRec) (kwd : List (Str × Expr)) : Prop :=
  ∀ (w : World) (s₀ s₁ : Shared) (mg mb : Str → Option Value), Ground q loose r.records XP w s₀ mg mb s₁.heap → YP w s₁.heap → ∀ (a : Addr) (o : Obj) (pm cd doc dV kV : Value), s₁.heap.get? a = some o →
    o.data = .func { docDef d.name d.params d.body d.scope pm cd doc with defaults := dV, kwdefaults := kV } → s₁.heap.CodeRec cd d.name → Dflts mg s₁.heap d.params kwd dV kV → mg d.name = some (.ref a) → s₁.gens = #[] →
    ∀ (args : List WData) (vals : List Value) (as : List Addr), r.claim.pre args = true → WData.layableAll args = true → ReadsAllW r.records (classAt s₀.heap) s₁.heap vals args as → WellAll w.params s₁.heap vals args → (∀ a ∈ as, (a == sysModules) = false) →
      wpC (model r.prog w) callerA (call (.ref a) vals) (fun v s' => GoodWG r.claim (classAt s₀.heap) (ExcName.means s₀.heap) args s₁ (.ok (.ret v)) s')
        (fun e s' => GoodWG r.claim (classAt s₀.heap) (ExcName.means s₀.heap) args s₁ (.error e) s') s₁

theorem holds_clean {r : OpenRow} {q : Program} {loose : List Str} {Xt : Shared → Bool} {XP : (Str → Option Value) → Heap → Prop} {α : Type} {Yf : Shared → α} {Ya : World → α} {YP : World → Heap → Prop} {d : DefRec} {kwd : List (Str × Expr)} {N : Nat}
    (left : LeftO r.prog q loose Xt Yf Ya N) (hY : ∀ w s, Yf s = Ya w → YP w s.heap) (hYk : ∀ w h h', YP w h → (∀ b o, h.get? b = some o → h'.get? b = some o) → YP w h')
    (hX : ∀ s, Xt s = true → XP (s.heap.nsMap mainGlobals) s.heap) (hXk : ∀ mg h h', XP mg h → (∀ b o, h.get? b = some o → h'.get? b = some o) → XP mg h')
    (hdef : defOf q r.name = some (d, kwd)) (hp : r.prog.theDef r.name = some (d.params, d.body, d.scope)) (hk : kwWritten? d.params.kwonlyargs d.params.kw_defaults = some kwd) (hRf : ∀ s, Xt s = true → RecFacts r.records s.heap) (hwr : (!r.writes || r.records.isEmpty) = true)
    (k1 : r.wellSaid = true) (ok : (chainsOk q && opensWell r.prog && (frees r.toRowW && r.within.isEmpty)) = true) (hb : r.prog.bare) (hw : r.toRowW.promised)
    (walk : WalkC q loose XP YP r.toRowW d kwd) : r.Holds := by
  obtain ⟨ok, k5⟩ := Bool.and_eq_true_iff.mp ok
  obtain ⟨hch, o1⟩ := Bool.and_eq_true_iff.mp ok
  obtain ⟨k5, k6⟩ := Bool.and_eq_true_iff.mp k5
  obtain ⟨hsame, hu, ha, hap, hm⟩ := frees_parts k5
  have L0 := fun w => left.behind (XP := fun mg h => XP mg h ∧ RecFacts r.records h) (fun s hs => ⟨hX s hs, hRf s hs⟩) hch w
  refine ⟨k1, hw, ⟨hb, o1, by show r.makers.map _ = []; rw [hm]; rfl⟩, hw.witness, fun w => ⟨(L0 w).1, fun s' hs' => ?_⟩⟩
  obtain ⟨s₀, hf, hg0, s, hT, hz, hgens, hg, G00, y⟩ := (L0 w).2 s' hs'
  have G0 : Ground q loose [] XP w s (s.heap.nsMap mainGlobals) (s.heap.nsMap builtinsNs) s.heap := ⟨G00.T, G00.B, G00.D, G00.TE, G00.TD, G00.W, G00.X.1, G00.cls, G00.has, G00.apart, G00.once, G00.K⟩
  have RF := G00.X.2
  have hgens : s.gens = #[] := Array.eq_empty_of_size_eq_zero (beq_iff_eq.mp hgens)
  have G : Ground q loose r.records XP w s _ _ s.heap := RF.ground G0
  refine ⟨s₀, hf, hg0, s, hT, fun n hn => ?_, RF.1, RF.2.1, callFromC (c := r.claim) hz hgens fun args hpre hlay ord hord => ?_⟩
  · obtain rfl : n = r.name := by split at hn <;> simp_all
    exact pinned_of_view hg G0 hdef hp hk
  obtain ⟨⟨vs, s₁⟩, hlaid⟩ := Option.isSome_iff_exists.mp (layAllW_isSome (P := w.params) (ord := ord) G.has args r.args s (pre_splitW hpre).1)
  have keeps := layAllW_keeps _ _ _ hlaid
  have hal := layAllW_rest _ _ _ hlaid
  obtain ⟨as, hrd, hin, hold⟩ := reads_layAllW hord _ _ _ hlaid hlay s₁.heap (fun _ _ e => e)
  have L : Laid r.records w s s₁ args vs as := ⟨⟨ord, hord, hlaid⟩, hrd, hin, hold, keeps, hal.1.trans hgens, hal.2.2.1⟩
  have G₁ := G.keeps hXk keeps
  obtain ⟨a, o, pm, cd, doc, dV, kV, h1, h2, h3, h4, h5⟩ := G₁.fn hdef
  have hi := ident_freeW hu ha hap
  have hwi : r.claim.within = [] := List.isEmpty_iff.mp k6
  have h := walk w s s₁ _ _ G₁ (hYk _ _ _ (hY w s y) keeps) a o pm cd doc dV kV h2 h3 h4 h5 (defOf_name hdef ▸ h1) L.gens args vs as hpre hlay L.reads L.well (L.low G.low)
  have fin : ∀ (kps : List Str) r' s', GoodWG r.claim (classAt s.heap) (ExcName.means s.heap) args s₁ r' s' → r.claim.Ends s args vs s₁ r' s' ∧ s'.os = s.os ∧ AllBare s'.gens ∧ (r.writes = true → namesKept r.prog kps s.heap s'.heap ∧ ∀ x ∈ r.records, ∀ a, classAt s.heap x.1 = some a → recordClass s'.heap a x.1 (x.2.map (·.1)) = true) := fun kps r' s' g =>
    have z := g.laid (c := r.claim) hsame hwi hi L
    ⟨z.1, z.2.1, z.2.2, fun q => ⟨namesKept_of hT hg kps keeps g.2.1.old, noTable hwr q⟩⟩
  refine ⟨vs, s₁, hlaid, wpC_step (wpAny_nsGet G₁.T.g ?_)⟩
  rw [h1]
  exact wpC_bind (wpC_mono h (fun v s' g => wpC_pure ⟨_, rfl, fin _ _ _ g⟩) fun e s' g => fin _ _ _ g)
end Mine
end
section
set_option maxRecDepth 100000
namespace Mine
/-! what the base heap holds -/
noncomputable def tabT : List (Int × Str) := [(1, Str.ofString "OPTIMIZED"), (2, Str.ofString "NEWLOCALS"), (4, Str.ofString "VARARGS"), (8, Str.ofString "VARKEYWORDS"), (16, Str.ofString "NESTED"), (32, Str.ofString "GENERATOR"), (64, Str.ofString "NOFREE"), (128, Str.ofString "COROUTINE"), (256, Str.ofString "ITERABLE_COROUTINE"), (512, Str.ofString "ASYNC_GENERATOR")]
noncomputable abbrev tabA : Addr := 49
noncomputable def tabO : MF := fun a as σ => match a with | .con (.ref b) => if b = tabA then getD tabT a as σ else none | _ => none
noncomputable def byteswap_st : Stmt := stAt PySem.Challenge.pw_wf0025_01 1
noncomputable def byteswap_ps : List Str := [Str.ofString "data", Str.ofString "width"]
noncomputable def insort_right_st : Stmt := stAt PySem.Challenge.pw_wf0025_01 3
noncomputable def insort_right_ps : List Str := [Str.ofString "a", Str.ofString "x", Str.ofString "lo", Str.ofString "hi", Str.ofString "key"]
noncomputable def bisect_right_st : Stmt := stAt PySem.Challenge.pw_wf0025_01 4
noncomputable def bisect_right_ps : List Str := [Str.ofString "a", Str.ofString "x", Str.ofString "lo", Str.ofString "hi", Str.ofString "key"]
noncomputable def bisect_left_st : Stmt := stAt PySem.Challenge.pw_wf0025_01 5
noncomputable def bisect_left_ps : List Str := [Str.ofString "a", Str.ofString "x", Str.ofString "lo", Str.ofString "hi", Str.ofString "key"]
noncomputable def pretty_flags_st : Stmt := stAt PySem.Challenge.pw_wf0025_01 8
noncomputable def pretty_flags_ps : List Str := [Str.ofString "flags"]
noncomputable def law_words_st : Stmt := stAt PySem.Challenge.pw_wf0025_01 10
noncomputable def law_words_ps : List Str := [Str.ofString "size"]
noncomputable def law_chosen_st : Stmt := stAt PySem.Challenge.pw_wf0025_01 11
noncomputable def law_chosen_ps : List Str := [Str.ofString "kind", Str.ofString "factor", Str.ofString "shift"]
noncomputable def law_lines_st : Stmt := stAt PySem.Challenge.pw_wf0025_01 12
noncomputable def law_lines_ps : List Str := [Str.ofString "size", Str.ofString "chosen"]
noncomputable def law_marks_st : Stmt := stAt PySem.Challenge.pw_wf0025_01 13
noncomputable def law_marks_ps : List Str := [Str.ofString "size", Str.ofString "lines"]
noncomputable def law_backs_st : Stmt := stAt PySem.Challenge.pw_wf0025_01 14
noncomputable def law_backs_ps : List Str := [Str.ofString "size", Str.ofString "chosen"]
noncomputable def law_common_st : Stmt := stAt PySem.Challenge.pw_wf0025_01 15
noncomputable def law_common_ps : List Str := [Str.ofString "size", Str.ofString "chosen", Str.ofString "turned"]
noncomputable def law_meets_st : Stmt := stAt PySem.Challenge.pw_wf0025_01 16
noncomputable def law_meets_ps : List Str := [Str.ofString "size", Str.ofString "chosen", Str.ofString "touching"]
noncomputable def law_through_st : Stmt := stAt PySem.Challenge.pw_wf0025_01 17
noncomputable def law_through_ps : List Str := [Str.ofString "few", Str.ofString "oval", Str.ofString "meets"]
noncomputable def law_st : Stmt := stAt PySem.Challenge.pw_wf0025_01 18
noncomputable def law_ps : List Str := [Str.ofString "script"]
structure Facts (g : Heap) : Prop where
  lim : g.NoLimit
  gl_byteswap : GlobIs g (Str.ofString "_byteswap") (.ref 21)
  gl_insort_right : GlobIs g (Str.ofString "insort_right") (.ref 30)
  gl_bisect_right : GlobIs g (Str.ofString "bisect_right") (.ref 39)
  gl_bisect_left : GlobIs g (Str.ofString "bisect_left") (.ref 48)
  gl_COMPILER_FLAG_NAMES : GlobIs g (Str.ofString "COMPILER_FLAG_NAMES") (.ref 49)
  gl_pretty_flags : GlobIs g (Str.ofString "pretty_flags") (.ref 56)
  gl_law_words : GlobIs g (Str.ofString "_law_words") (.ref 63)
  gl_law_chosen : GlobIs g (Str.ofString "_law_chosen") (.ref 68)
  gl_law_lines : GlobIs g (Str.ofString "_law_lines") (.ref 73)
  gl_law_marks : GlobIs g (Str.ofString "_law_marks") (.ref 80)
  gl_law_backs : GlobIs g (Str.ofString "_law_backs") (.ref 85)
  gl_law_common : GlobIs g (Str.ofString "_law_common") (.ref 90)
  gl_law_meets : GlobIs g (Str.ofString "_law_meets") (.ref 95)
  gl_law_through : GlobIs g (Str.ofString "_law_through") (.ref 100)
  gl_law : GlobIs g (Str.ofString "law") (.ref 105)
  gl_len : GlobIs g (Str.ofString "len") (.builtin "len")
  gl_sum : GlobIs g (Str.ofString "sum") (.builtin "sum")
  gl_hex : GlobIs g (Str.ofString "hex") (.builtin "hex")
  gl_isinstance : GlobIs g (Str.ofString "isinstance") (.builtin "isinstance")
  gl_sorted : GlobIs g (Str.ofString "sorted") (.builtin "sorted")
  gl_bytes : GlobIs g (Str.ofString "bytes") (.type "bytes")
  gl_int : GlobIs g (Str.ofString "int") (.type "int")
  gl_list : GlobIs g (Str.ofString "list") (.type "list")
  gl_range : GlobIs g (Str.ofString "range") (.type "range")
  gl_enumerate : GlobIs g (Str.ofString "enumerate") (.type "enumerate")
  gl_bytearray : GlobIs g (Str.ofString "bytearray") (.type "bytearray")
  tab : ∀ (prog : Program) (w : World), IntTab prog w g tabA (tabT.map fun p => (PyData.int p.1, PyData.str p.2))
  fn_byteswap : ∃ fd, FnOK g 21 fd (bodyOf byteswap_st) (namesOf byteswap_st) byteswap_ps ∧ (∀ vs : List Value, vs.length = 2 → bindArgs fd ⟨vs, []⟩ = pure (byteswap_ps.zip vs))
  fn_insort_right : ∃ fd, FnOK g 30 fd (bodyOf insort_right_st) (namesOf insort_right_st) insort_right_ps ∧ (∀ (s : Shared) (vs : List Value), (∀ b o, g.get? b = some o → s.heap.get? b = some o) → vs.length = 4 → ∃ ws, BindsTo s fd ⟨vs, []⟩ (insort_right_ps.zip (vs ++ ws)) ∧ Plain2 [.con .none] ws) ∧ (∀ (s : Shared) (vs : List Value) (v : Value), (∀ b o, g.get? b = some o → s.heap.get? b = some o) → vs.length = 4 → BindsTo s fd ⟨vs, [(Str.ofString "key", v)]⟩ (insort_right_ps.zip (vs ++ [v]))) ∧ (∀ (s : Shared) (vs : List Value), (∀ b o, g.get? b = some o → s.heap.get? b = some o) → vs.length = 2 → ∃ ws, BindsTo s fd ⟨vs, []⟩ (insort_right_ps.zip (vs ++ ws)) ∧ Plain2 [.int 0, .con .none, .con .none] ws) ∧ (∀ (s : Shared) (vs : List Value) (v : Value), (∀ b o, g.get? b = some o → s.heap.get? b = some o) → vs.length = 2 → ∃ ws, BindsTo s fd ⟨vs, [(Str.ofString "key", v)]⟩ (insort_right_ps.zip (vs ++ (ws ++ [v]))) ∧ Plain2 [.int 0, .con .none] ws)
  fn_bisect_right : ∃ fd, FnOK g 39 fd (bodyOf bisect_right_st) (namesOf bisect_right_st) bisect_right_ps ∧ (∀ (s : Shared) (vs : List Value), (∀ b o, g.get? b = some o → s.heap.get? b = some o) → vs.length = 4 → ∃ ws, BindsTo s fd ⟨vs, []⟩ (bisect_right_ps.zip (vs ++ ws)) ∧ Plain2 [.con .none] ws) ∧ (∀ (s : Shared) (vs : List Value) (v : Value), (∀ b o, g.get? b = some o → s.heap.get? b = some o) → vs.length = 4 → BindsTo s fd ⟨vs, [(Str.ofString "key", v)]⟩ (bisect_right_ps.zip (vs ++ [v]))) ∧ (∀ (s : Shared) (vs : List Value), (∀ b o, g.get? b = some o → s.heap.get? b = some o) → vs.length = 2 → ∃ ws, BindsTo s fd ⟨vs, []⟩ (bisect_right_ps.zip (vs ++ ws)) ∧ Plain2 [.int 0, .con .none, .con .none] ws) ∧ (∀ (s : Shared) (vs : List Value) (v : Value), (∀ b o, g.get? b = some o → s.heap.get? b = some o) → vs.length = 2 → ∃ ws, BindsTo s fd ⟨vs, [(Str.ofString "key", v)]⟩ (bisect_right_ps.zip (vs ++ (ws ++ [v]))) ∧ Plain2 [.int 0, .con .none] ws)
  fn_bisect_left : ∃ fd, FnOK g 48 fd (bodyOf bisect_left_st) (namesOf bisect_left_st) bisect_left_ps ∧ (∀ (s : Shared) (vs : List Value), (∀ b o, g.get? b = some o → s.heap.get? b = some o) → vs.length = 4 → ∃ ws, BindsTo s fd ⟨vs, []⟩ (bisect_left_ps.zip (vs ++ ws)) ∧ Plain2 [.con .none] ws) ∧ (∀ (s : Shared) (vs : List Value) (v : Value), (∀ b o, g.get? b = some o → s.heap.get? b = some o) → vs.length = 4 → BindsTo s fd ⟨vs, [(Str.ofString "key", v)]⟩ (bisect_left_ps.zip (vs ++ [v]))) ∧ (∀ (s : Shared) (vs : List Value), (∀ b o, g.get? b = some o → s.heap.get? b = some o) → vs.length = 2 → ∃ ws, BindsTo s fd ⟨vs, []⟩ (bisect_left_ps.zip (vs ++ ws)) ∧ Plain2 [.int 0, .con .none, .con .none] ws) ∧ (∀ (s : Shared) (vs : List Value) (v : Value), (∀ b o, g.get? b = some o → s.heap.get? b = some o) → vs.length = 2 → ∃ ws, BindsTo s fd ⟨vs, [(Str.ofString "key", v)]⟩ (bisect_left_ps.zip (vs ++ (ws ++ [v]))) ∧ Plain2 [.int 0, .con .none] ws)
  fn_pretty_flags : ∃ fd, FnOK g 56 fd (bodyOf pretty_flags_st) (namesOf pretty_flags_st) pretty_flags_ps ∧ (∀ vs : List Value, vs.length = 1 → bindArgs fd ⟨vs, []⟩ = pure (pretty_flags_ps.zip vs))
  fn_law_words : ∃ fd, FnOK g 63 fd (bodyOf law_words_st) (namesOf law_words_st) law_words_ps ∧ (∀ vs : List Value, vs.length = 1 → bindArgs fd ⟨vs, []⟩ = pure (law_words_ps.zip vs))
  fn_law_chosen : ∃ fd, FnOK g 68 fd (bodyOf law_chosen_st) (namesOf law_chosen_st) law_chosen_ps ∧ (∀ vs : List Value, vs.length = 3 → bindArgs fd ⟨vs, []⟩ = pure (law_chosen_ps.zip vs))
  fn_law_lines : ∃ fd, FnOK g 73 fd (bodyOf law_lines_st) (namesOf law_lines_st) law_lines_ps ∧ (∀ vs : List Value, vs.length = 2 → bindArgs fd ⟨vs, []⟩ = pure (law_lines_ps.zip vs))
  fn_law_marks : ∃ fd, FnOK g 80 fd (bodyOf law_marks_st) (namesOf law_marks_st) law_marks_ps ∧ (∀ vs : List Value, vs.length = 2 → bindArgs fd ⟨vs, []⟩ = pure (law_marks_ps.zip vs))
  fn_law_backs : ∃ fd, FnOK g 85 fd (bodyOf law_backs_st) (namesOf law_backs_st) law_backs_ps ∧ (∀ vs : List Value, vs.length = 2 → bindArgs fd ⟨vs, []⟩ = pure (law_backs_ps.zip vs))
  fn_law_common : ∃ fd, FnOK g 90 fd (bodyOf law_common_st) (namesOf law_common_st) law_common_ps ∧ (∀ vs : List Value, vs.length = 3 → bindArgs fd ⟨vs, []⟩ = pure (law_common_ps.zip vs))
  fn_law_meets : ∃ fd, FnOK g 95 fd (bodyOf law_meets_st) (namesOf law_meets_st) law_meets_ps ∧ (∀ vs : List Value, vs.length = 3 → bindArgs fd ⟨vs, []⟩ = pure (law_meets_ps.zip vs))
  fn_law_through : ∃ fd, FnOK g 100 fd (bodyOf law_through_st) (namesOf law_through_st) law_through_ps ∧ (∀ vs : List Value, vs.length = 3 → bindArgs fd ⟨vs, []⟩ = pure (law_through_ps.zip vs))
  fn_law : ∃ fd, FnOK g 105 fd (bodyOf law_st) (namesOf law_st) law_ps ∧ (∀ vs : List Value, vs.length = 1 → bindArgs fd ⟨vs, []⟩ = pure (law_ps.zip vs))
section
variable {prog : Program} {w : World} {g : Heap}
theorem Facts.ob_byteswap (hG : Facts g) : ∃ o, g.get? 21 = some o ∧ o.data = .func (hG.fn_byteswap).choose := (hG.fn_byteswap).choose_spec.1.ob
theorem Facts.ob_insort_right (hG : Facts g) : ∃ o, g.get? 30 = some o ∧ o.data = .func (hG.fn_insort_right).choose := (hG.fn_insort_right).choose_spec.1.ob
theorem Facts.ob_bisect_right (hG : Facts g) : ∃ o, g.get? 39 = some o ∧ o.data = .func (hG.fn_bisect_right).choose := (hG.fn_bisect_right).choose_spec.1.ob
theorem Facts.ob_bisect_left (hG : Facts g) : ∃ o, g.get? 48 = some o ∧ o.data = .func (hG.fn_bisect_left).choose := (hG.fn_bisect_left).choose_spec.1.ob
theorem Facts.ob_pretty_flags (hG : Facts g) : ∃ o, g.get? 56 = some o ∧ o.data = .func (hG.fn_pretty_flags).choose := (hG.fn_pretty_flags).choose_spec.1.ob
theorem Facts.ob_law_words (hG : Facts g) : ∃ o, g.get? 63 = some o ∧ o.data = .func (hG.fn_law_words).choose := (hG.fn_law_words).choose_spec.1.ob
theorem Facts.ob_law_chosen (hG : Facts g) : ∃ o, g.get? 68 = some o ∧ o.data = .func (hG.fn_law_chosen).choose := (hG.fn_law_chosen).choose_spec.1.ob
theorem Facts.ob_law_lines (hG : Facts g) : ∃ o, g.get? 73 = some o ∧ o.data = .func (hG.fn_law_lines).choose := (hG.fn_law_lines).choose_spec.1.ob
theorem Facts.ob_law_marks (hG : Facts g) : ∃ o, g.get? 80 = some o ∧ o.data = .func (hG.fn_law_marks).choose := (hG.fn_law_marks).choose_spec.1.ob
theorem Facts.ob_law_backs (hG : Facts g) : ∃ o, g.get? 85 = some o ∧ o.data = .func (hG.fn_law_backs).choose := (hG.fn_law_backs).choose_spec.1.ob
theorem Facts.ob_law_common (hG : Facts g) : ∃ o, g.get? 90 = some o ∧ o.data = .func (hG.fn_law_common).choose := (hG.fn_law_common).choose_spec.1.ob
theorem Facts.ob_law_meets (hG : Facts g) : ∃ o, g.get? 95 = some o ∧ o.data = .func (hG.fn_law_meets).choose := (hG.fn_law_meets).choose_spec.1.ob
theorem Facts.ob_law_through (hG : Facts g) : ∃ o, g.get? 100 = some o ∧ o.data = .func (hG.fn_law_through).choose := (hG.fn_law_through).choose_spec.1.ob
theorem Facts.get (hG : Facts g) {k : Nat} : PrimM prog w g k "get" "dict.get" (okD tabA) tabO := prim_dget hG.tab
theorem GlobIs.keeps {g g' : Heap} {x : Str} {v : Value} (h : GlobIs g x v) (hk : ∀ b o, g.get? b = some o → g'.get? b = some o) : GlobIs g' x v := by
  obtain ⟨mg, mb, h1, h2, h3⟩ := h
  exact ⟨mg, mb, h1.keeps hk, h2.keeps hk, h3⟩
theorem FnOK.keeps {g g' : Heap} {a : Addr} {fd : FuncData} {body : List Stmt} {nms : List (Str × NameKind)} {params : List Str} (x : FnOK g a fd body nms params) (hk : ∀ b o, g.get? b = some o → g'.get? b = some o) : FnOK g' a fd body nms params := by
  obtain ⟨o, h1, h2⟩ := x.ob
  exact ⟨⟨o, hk _ _ h1, h2⟩, x.lim.keeps hk, x.code.keeps hk, x.body, x.names, x.kind, x.coro, x.gen, x.clo, x.glob, x.bi, x.par⟩
theorem Facts.keeps {g g' : Heap} (x : Facts g) (hk : ∀ b o, g.get? b = some o → g'.get? b = some o) : Facts g' where
  lim := x.lim.keeps hk
  gl_byteswap := GlobIs.keeps x.gl_byteswap hk
  gl_insort_right := GlobIs.keeps x.gl_insort_right hk
  gl_bisect_right := GlobIs.keeps x.gl_bisect_right hk
  gl_bisect_left := GlobIs.keeps x.gl_bisect_left hk
  gl_COMPILER_FLAG_NAMES := GlobIs.keeps x.gl_COMPILER_FLAG_NAMES hk
  gl_pretty_flags := GlobIs.keeps x.gl_pretty_flags hk
  gl_law_words := GlobIs.keeps x.gl_law_words hk
  gl_law_chosen := GlobIs.keeps x.gl_law_chosen hk
  gl_law_lines := GlobIs.keeps x.gl_law_lines hk
  gl_law_marks := GlobIs.keeps x.gl_law_marks hk
  gl_law_backs := GlobIs.keeps x.gl_law_backs hk
  gl_law_common := GlobIs.keeps x.gl_law_common hk
  gl_law_meets := GlobIs.keeps x.gl_law_meets hk
  gl_law_through := GlobIs.keeps x.gl_law_through hk
  gl_law := GlobIs.keeps x.gl_law hk
  gl_len := GlobIs.keeps x.gl_len hk
  gl_sum := GlobIs.keeps x.gl_sum hk
  gl_hex := GlobIs.keeps x.gl_hex hk
  gl_isinstance := GlobIs.keeps x.gl_isinstance hk
  gl_sorted := GlobIs.keeps x.gl_sorted hk
  gl_bytes := GlobIs.keeps x.gl_bytes hk
  gl_int := GlobIs.keeps x.gl_int hk
  gl_list := GlobIs.keeps x.gl_list hk
  gl_range := GlobIs.keeps x.gl_range hk
  gl_enumerate := GlobIs.keeps x.gl_enumerate hk
  gl_bytearray := GlobIs.keeps x.gl_bytearray hk
  tab := fun prog w => let ⟨lo, kvs, hd, hf⟩ := x.tab prog w; ⟨lo, kvs, Heap.DictOf.keep hd hk, hf⟩
  fn_byteswap := by
    obtain ⟨fd, h1, h2⟩ := x.fn_byteswap
    exact ⟨fd, FnOK.keeps h1 hk, h2⟩
  fn_insort_right := by
    obtain ⟨fd, h1, h2, h3, h4, h5⟩ := x.fn_insort_right
    exact ⟨fd, FnOK.keeps h1 hk, fun s vs k => h2 s vs (fun b o e => k b o (hk b o e)), fun s vs v k => h3 s vs v (fun b o e => k b o (hk b o e)), fun s vs k => h4 s vs (fun b o e => k b o (hk b o e)), fun s vs v k => h5 s vs v (fun b o e => k b o (hk b o e))⟩
  fn_bisect_right := by
    obtain ⟨fd, h1, h2, h3, h4, h5⟩ := x.fn_bisect_right
    exact ⟨fd, FnOK.keeps h1 hk, fun s vs k => h2 s vs (fun b o e => k b o (hk b o e)), fun s vs v k => h3 s vs v (fun b o e => k b o (hk b o e)), fun s vs k => h4 s vs (fun b o e => k b o (hk b o e)), fun s vs v k => h5 s vs v (fun b o e => k b o (hk b o e))⟩
  fn_bisect_left := by
    obtain ⟨fd, h1, h2, h3, h4, h5⟩ := x.fn_bisect_left
    exact ⟨fd, FnOK.keeps h1 hk, fun s vs k => h2 s vs (fun b o e => k b o (hk b o e)), fun s vs v k => h3 s vs v (fun b o e => k b o (hk b o e)), fun s vs k => h4 s vs (fun b o e => k b o (hk b o e)), fun s vs v k => h5 s vs v (fun b o e => k b o (hk b o e))⟩
  fn_pretty_flags := by
    obtain ⟨fd, h1, h2⟩ := x.fn_pretty_flags
    exact ⟨fd, FnOK.keeps h1 hk, h2⟩
  fn_law_words := by
    obtain ⟨fd, h1, h2⟩ := x.fn_law_words
    exact ⟨fd, FnOK.keeps h1 hk, h2⟩
  fn_law_chosen := by
    obtain ⟨fd, h1, h2⟩ := x.fn_law_chosen
    exact ⟨fd, FnOK.keeps h1 hk, h2⟩
  fn_law_lines := by
    obtain ⟨fd, h1, h2⟩ := x.fn_law_lines
    exact ⟨fd, FnOK.keeps h1 hk, h2⟩
  fn_law_marks := by
    obtain ⟨fd, h1, h2⟩ := x.fn_law_marks
    exact ⟨fd, FnOK.keeps h1 hk, h2⟩
  fn_law_backs := by
    obtain ⟨fd, h1, h2⟩ := x.fn_law_backs
    exact ⟨fd, FnOK.keeps h1 hk, h2⟩
  fn_law_common := by
    obtain ⟨fd, h1, h2⟩ := x.fn_law_common
    exact ⟨fd, FnOK.keeps h1 hk, h2⟩
  fn_law_meets := by
    obtain ⟨fd, h1, h2⟩ := x.fn_law_meets
    exact ⟨fd, FnOK.keeps h1 hk, h2⟩
  fn_law_through := by
    obtain ⟨fd, h1, h2⟩ := x.fn_law_through
    exact ⟨fd, FnOK.keeps h1 hk, h2⟩
  fn_law := by
    obtain ⟨fd, h1, h2⟩ := x.fn_law
    exact ⟨fd, FnOK.keeps h1 hk, h2⟩
/-! bisect_right -/
noncomputable def bisect_right_nm : List Str := [Str.ofString "a", Str.ofString "x", Str.ofString "lo", Str.ofString "hi", Str.ofString "key", Str.ofString "mid"]
theorem bisect_right_nd : bisect_right_nm.Nodup := by decide +kernel
noncomputable def bisect_right_s1 : SF := (asgS 3 (callE lenO (consEs (varE 0) nilEs)))
noncomputable def bisect_right_s2 : SF := (asgS 5 (binE fdivO (binE addO (varE 2) (varE 3)) (valE (.int 2))))
noncomputable def bisect_right_s3 : SF := (asgS 3 (varE 5))
noncomputable def bisect_right_s4 : SF := (asgS 2 (binE addO (varE 5) (valE (.int 1))))
noncomputable def bisect_right_b1 : SF := (seqS bisect_right_s2
  (seqS (ifS (cmpT ltO (varE 1) (binE getO (varE 0) (varE 5))) (seqS bisect_right_s3
  skipS) (seqS bisect_right_s4
  skipS))
  skipS))
noncomputable def bisect_right_s5 : SF := (asgS 5 (binE fdivO (binE addO (varE 2) (varE 3)) (valE (.int 2))))
noncomputable def bisect_right_s6 : SF := (asgS 3 (varE 5))
noncomputable def bisect_right_s7 : SF := (asgS 2 (binE addO (varE 5) (valE (.int 1))))
noncomputable def bisect_right_b2 : SF := (seqS bisect_right_s5
  (seqS (ifS (cmpT ltO (varE 1) neverE) (seqS bisect_right_s6
  skipS) (seqS bisect_right_s7
  skipS))
  skipS))
noncomputable def bisect_right_s8 : SF := (retS (varE 2))
noncomputable def bisect_right_F : SF := (seqS (ifS (cmpT ltO (varE 2) (valE (.int 0))) (seqS noneS
  skipS) skipS)
  (seqS (ifS (cmpT isO (varE 3) (valE (.con .none))) (seqS bisect_right_s1
  skipS) skipS)
  (seqS (ifS (cmpT isO (varE 4) (valE (.con .none))) (seqS (whileGo (cmpT ltO (varE 2) (varE 3)) bisect_right_b1 skipS 65536)
  skipS) (seqS (whileGo (cmpT ltO (varE 2) (varE 3)) bisect_right_b2 skipS 65536)
  skipS))
  (seqS bisect_right_s8
  skipS))))
theorem bisect_right_sim (hG : Facts g) : SimSs prog w g 0 (namesOf bisect_right_st) bisect_right_nm (bodyOf bisect_right_st) bisect_right_F := by
  exact (simss_cons (sims_if (simt_cmp (sim_var 2 rfl (by kernel_rfl)) sim_int prim_lt rfl) (simss_cons sims_never
  simss_nil) simss_nil)
  (simss_cons (sims_if (simt_cmp (sim_var 3 rfl (by kernel_rfl)) sim_none prim_is rfl) (simss_cons (sims_assign 3 (sim_callB (by kernel_rfl) (by kernel_rfl) hG.gl_len (sims_cons (sim_var 0 rfl (by kernel_rfl)) sims_nil fun _ => rfl) ⟨⟨_, _, rfl, fun _ => rfl⟩, fun _ _ => rfl⟩ prim_len) rfl (by kernel_rfl) bisect_right_nd fun _ => rfl)
  simss_nil) simss_nil)
  (simss_cons (sims_if (simt_cmp (sim_var 4 rfl (by kernel_rfl)) sim_none prim_is rfl) (simss_cons (sims_while 65536 (simt_cmp (sim_var 2 rfl (by kernel_rfl)) (sim_var 3 rfl (by kernel_rfl)) prim_lt rfl) (simss_cons (sims_assign 5 (sim_bin (sim_bin (sim_var 2 rfl (by kernel_rfl)) (sim_var 3 rfl (by kernel_rfl)) prim_add) sim_int prim_fdiv) rfl (by kernel_rfl) bisect_right_nd fun _ => rfl)
  (simss_cons (sims_if (simt_cmp (sim_var 1 rfl (by kernel_rfl)) (sim_sub_get (sim_var 0 rfl (by kernel_rfl)) (sim_var 5 rfl (by kernel_rfl)) fun _ _ => rfl) prim_lt rfl) (simss_cons (sims_assign 3 (sim_var 5 rfl (by kernel_rfl)) rfl (by kernel_rfl) bisect_right_nd fun _ => rfl)
  simss_nil) (simss_cons (sims_assign 2 (sim_bin (sim_var 5 rfl (by kernel_rfl)) sim_int prim_add) rfl (by kernel_rfl) bisect_right_nd fun _ => rfl)
  simss_nil))
  simss_nil)) simss_nil)
  simss_nil) (simss_cons (sims_while 65536 (simt_cmp (sim_var 2 rfl (by kernel_rfl)) (sim_var 3 rfl (by kernel_rfl)) prim_lt rfl) (simss_cons (sims_assign 5 (sim_bin (sim_bin (sim_var 2 rfl (by kernel_rfl)) (sim_var 3 rfl (by kernel_rfl)) prim_add) sim_int prim_fdiv) rfl (by kernel_rfl) bisect_right_nd fun _ => rfl)
  (simss_cons (sims_if (simt_cmp (sim_var 1 rfl (by kernel_rfl)) sim_never prim_lt rfl) (simss_cons (sims_assign 3 (sim_var 5 rfl (by kernel_rfl)) rfl (by kernel_rfl) bisect_right_nd fun _ => rfl)
  simss_nil) (simss_cons (sims_assign 2 (sim_bin (sim_var 5 rfl (by kernel_rfl)) sim_int prim_add) rfl (by kernel_rfl) bisect_right_nd fun _ => rfl)
  simss_nil))
  simss_nil)) simss_nil)
  simss_nil))
  (simss_cons (sims_ret (sim_var 2 rfl (by kernel_rfl)))
  simss_nil))))
noncomputable def op_bisect_right_4 : CF := fillF 4 1 bisect_right_F [.con .none]
theorem call_bisect_right_4 (hG : Facts g) : PrimC prog w g 1 (.ref 39) op_bisect_right_4 :=
  prim_fnD (locs := [Str.ofString "mid"]) 4 (hG.fn_bisect_right).choose_spec.1 (bisect_right_sim hG) rfl bisect_right_nd 1 rfl (hG.fn_bisect_right).choose_spec.2.1
noncomputable def op_bisect_right_4k : KF := fillK 4 1 bisect_right_F
theorem call_bisect_right_4k (hG : Facts g) : PrimK prog w g 1 (.ref 39) (Str.ofString "key") op_bisect_right_4k :=
  prim_fnK (locs := [Str.ofString "mid"]) 4 (hG.fn_bisect_right).choose_spec.1 (bisect_right_sim hG) rfl bisect_right_nd 1 rfl (hG.fn_bisect_right).choose_spec.2.2.1
/-! bisect_left -/
noncomputable def bisect_left_nm : List Str := [Str.ofString "a", Str.ofString "x", Str.ofString "lo", Str.ofString "hi", Str.ofString "key", Str.ofString "mid"]
theorem bisect_left_nd : bisect_left_nm.Nodup := by decide +kernel
noncomputable def bisect_left_s1 : SF := (asgS 3 (callE lenO (consEs (varE 0) nilEs)))
noncomputable def bisect_left_s2 : SF := (asgS 5 (binE fdivO (binE addO (varE 2) (varE 3)) (valE (.int 2))))
noncomputable def bisect_left_s3 : SF := (asgS 2 (binE addO (varE 5) (valE (.int 1))))
noncomputable def bisect_left_s4 : SF := (asgS 3 (varE 5))
noncomputable def bisect_left_b1 : SF := (seqS bisect_left_s2
  (seqS (ifS (cmpT ltO (binE getO (varE 0) (varE 5)) (varE 1)) (seqS bisect_left_s3
  skipS) (seqS bisect_left_s4
  skipS))
  skipS))
noncomputable def bisect_left_s5 : SF := (asgS 5 (binE fdivO (binE addO (varE 2) (varE 3)) (valE (.int 2))))
noncomputable def bisect_left_s6 : SF := (asgS 2 (binE addO (varE 5) (valE (.int 1))))
noncomputable def bisect_left_s7 : SF := (asgS 3 (varE 5))
noncomputable def bisect_left_b2 : SF := (seqS bisect_left_s5
  (seqS (ifS (cmpT ltO neverE (varE 1)) (seqS bisect_left_s6
  skipS) (seqS bisect_left_s7
  skipS))
  skipS))
noncomputable def bisect_left_s8 : SF := (retS (varE 2))
noncomputable def bisect_left_F : SF := (seqS (ifS (cmpT ltO (varE 2) (valE (.int 0))) (seqS noneS
  skipS) skipS)
  (seqS (ifS (cmpT isO (varE 3) (valE (.con .none))) (seqS bisect_left_s1
  skipS) skipS)
  (seqS (ifS (cmpT isO (varE 4) (valE (.con .none))) (seqS (whileGo (cmpT ltO (varE 2) (varE 3)) bisect_left_b1 skipS 65536)
  skipS) (seqS (whileGo (cmpT ltO (varE 2) (varE 3)) bisect_left_b2 skipS 65536)
  skipS))
  (seqS bisect_left_s8
  skipS))))
theorem bisect_left_sim (hG : Facts g) : SimSs prog w g 0 (namesOf bisect_left_st) bisect_left_nm (bodyOf bisect_left_st) bisect_left_F := by
  exact (simss_cons (sims_if (simt_cmp (sim_var 2 rfl (by kernel_rfl)) sim_int prim_lt rfl) (simss_cons sims_never
  simss_nil) simss_nil)
  (simss_cons (sims_if (simt_cmp (sim_var 3 rfl (by kernel_rfl)) sim_none prim_is rfl) (simss_cons (sims_assign 3 (sim_callB (by kernel_rfl) (by kernel_rfl) hG.gl_len (sims_cons (sim_var 0 rfl (by kernel_rfl)) sims_nil fun _ => rfl) ⟨⟨_, _, rfl, fun _ => rfl⟩, fun _ _ => rfl⟩ prim_len) rfl (by kernel_rfl) bisect_left_nd fun _ => rfl)
  simss_nil) simss_nil)
  (simss_cons (sims_if (simt_cmp (sim_var 4 rfl (by kernel_rfl)) sim_none prim_is rfl) (simss_cons (sims_while 65536 (simt_cmp (sim_var 2 rfl (by kernel_rfl)) (sim_var 3 rfl (by kernel_rfl)) prim_lt rfl) (simss_cons (sims_assign 5 (sim_bin (sim_bin (sim_var 2 rfl (by kernel_rfl)) (sim_var 3 rfl (by kernel_rfl)) prim_add) sim_int prim_fdiv) rfl (by kernel_rfl) bisect_left_nd fun _ => rfl)
  (simss_cons (sims_if (simt_cmp (sim_sub_get (sim_var 0 rfl (by kernel_rfl)) (sim_var 5 rfl (by kernel_rfl)) fun _ _ => rfl) (sim_var 1 rfl (by kernel_rfl)) prim_lt rfl) (simss_cons (sims_assign 2 (sim_bin (sim_var 5 rfl (by kernel_rfl)) sim_int prim_add) rfl (by kernel_rfl) bisect_left_nd fun _ => rfl)
  simss_nil) (simss_cons (sims_assign 3 (sim_var 5 rfl (by kernel_rfl)) rfl (by kernel_rfl) bisect_left_nd fun _ => rfl)
  simss_nil))
  simss_nil)) simss_nil)
  simss_nil) (simss_cons (sims_while 65536 (simt_cmp (sim_var 2 rfl (by kernel_rfl)) (sim_var 3 rfl (by kernel_rfl)) prim_lt rfl) (simss_cons (sims_assign 5 (sim_bin (sim_bin (sim_var 2 rfl (by kernel_rfl)) (sim_var 3 rfl (by kernel_rfl)) prim_add) sim_int prim_fdiv) rfl (by kernel_rfl) bisect_left_nd fun _ => rfl)
  (simss_cons (sims_if (simt_cmp sim_never (sim_var 1 rfl (by kernel_rfl)) prim_lt rfl) (simss_cons (sims_assign 2 (sim_bin (sim_var 5 rfl (by kernel_rfl)) sim_int prim_add) rfl (by kernel_rfl) bisect_left_nd fun _ => rfl)
  simss_nil) (simss_cons (sims_assign 3 (sim_var 5 rfl (by kernel_rfl)) rfl (by kernel_rfl) bisect_left_nd fun _ => rfl)
  simss_nil))
  simss_nil)) simss_nil)
  simss_nil))
  (simss_cons (sims_ret (sim_var 2 rfl (by kernel_rfl)))
  simss_nil))))
noncomputable def op_bisect_left_2 : CF := fillF 2 1 bisect_left_F [.int 0, .con .none, .con .none]
theorem call_bisect_left_2 (hG : Facts g) : PrimC prog w g 1 (.ref 48) op_bisect_left_2 :=
  prim_fnD (locs := [Str.ofString "mid"]) 2 (hG.fn_bisect_left).choose_spec.1 (bisect_left_sim hG) rfl bisect_left_nd 1 rfl (hG.fn_bisect_left).choose_spec.2.2.2.1
/-! insort_right -/
noncomputable def insort_right_nm : List Str := [Str.ofString "a", Str.ofString "x", Str.ofString "lo", Str.ofString "hi", Str.ofString "key"]
theorem insort_right_nd : insort_right_nm.Nodup := by decide +kernel
noncomputable def insort_right_s1 : SF := (asgS 2 (callE op_bisect_right_4 (consEs (varE 0) (consEs (varE 1) (consEs (varE 2) (consEs (varE 3) nilEs))))))
noncomputable def insort_right_s2 : SF := (asgS 2 (callKE op_bisect_right_4k (consEs (varE 0) (consEs neverE (consEs (varE 2) (consEs (varE 3) nilEs)))) (varE 4)))
noncomputable def insort_right_s3 : SF := (exprS (methO okL insO (varE 0) (consEs (varE 2) (consEs (varE 1) nilEs))))
noncomputable def insort_right_F : SF := (seqS (ifS (cmpT isO (varE 4) (valE (.con .none))) (seqS insort_right_s1
  skipS) (seqS insort_right_s2
  skipS))
  (seqS insort_right_s3
  skipS))
theorem insort_right_sim (hG : Facts g) : SimSs prog w g 1 (namesOf insort_right_st) insort_right_nm (bodyOf insort_right_st) insort_right_F := by
  exact (simss_cons (sims_if (simt_cmp (sim_var 4 rfl (by kernel_rfl)) sim_none prim_is rfl) (simss_cons (sims_assign 2 (sim_callF (by kernel_rfl) (by kernel_rfl) hG.gl_bisect_right hG.ob_bisect_right (sims_cons (sim_var 0 rfl (by kernel_rfl)) (sims_cons (sim_var 1 rfl (by kernel_rfl)) (sims_cons (sim_var 2 rfl (by kernel_rfl)) (sims_cons (sim_var 3 rfl (by kernel_rfl)) sims_nil fun _ => rfl) fun _ => rfl) fun _ => rfl) fun _ => rfl) ⟨⟨_, _, rfl, fun _ => rfl⟩, fun _ _ => rfl⟩ (call_bisect_right_4 hG |>.up (by decide))) rfl (by kernel_rfl) insort_right_nd fun _ => rfl)
  simss_nil) (simss_cons (sims_assign 2 (sim_callK (by kernel_rfl) (by kernel_rfl) hG.gl_bisect_right hG.ob_bisect_right (sims_cons (sim_var 0 rfl (by kernel_rfl)) (sims_cons sim_never (sims_cons (sim_var 2 rfl (by kernel_rfl)) (sims_cons (sim_var 3 rfl (by kernel_rfl)) sims_nil fun _ => rfl) fun _ => rfl) fun _ => rfl) fun _ => rfl) ⟨⟨_, _, rfl, fun _ => rfl⟩, fun _ _ => rfl⟩ (sim_var 4 rfl (by kernel_rfl)) (call_bisect_right_4k hG |>.up (by decide))) rfl (by kernel_rfl) insort_right_nd fun _ => rfl)
  simss_nil))
  (simss_cons (sims_expr (sim_meth (sim_var 0 rfl (by kernel_rfl)) (sims_cons (sim_var 2 rfl (by kernel_rfl)) (sims_cons (sim_var 1 rfl (by kernel_rfl)) sims_nil fun _ => rfl) fun _ => rfl) ⟨⟨_, _, rfl, fun _ => rfl⟩, fun _ _ => rfl⟩ prim_insert (meth_eq (fun _ => rfl) (fun _ => rfl) rfl)) (fun _ eo => inter_false eo) fun _ => rfl)
  simss_nil))
noncomputable def op_insort_right_2 : CF := fillF 2 0 insort_right_F [.int 0, .con .none, .con .none]
theorem call_insort_right_2 (hG : Facts g) : PrimC prog w g 2 (.ref 30) op_insort_right_2 :=
  prim_fnD (locs := []) 2 (hG.fn_insort_right).choose_spec.1 (insort_right_sim hG) rfl insort_right_nd 0 rfl (hG.fn_insort_right).choose_spec.2.2.2.1
/-! pretty_flags -/
noncomputable def pretty_flags_nm : List Str := [Str.ofString "flags", Str.ofString "names", Str.ofString "i", Str.ofString "flag"]
theorem pretty_flags_nd : pretty_flags_nm.Nodup := by decide +kernel
noncomputable def pretty_flags_s1 : SF := (asgS 1 (lstE nilEs))
noncomputable def pretty_flags_s2 : SF := (asgS 3 (binE shlO (valE (.int 1)) (varE 2)))
noncomputable def pretty_flags_s3 : SF := (exprS (methO okL appO (varE 1) (consEs (methO (okD tabA) tabO (valE (.con (.ref 49))) (consEs (varE 3) (consEs (callE hexO (consEs (varE 3) nilEs)) nilEs))) nilEs)))
noncomputable def pretty_flags_s4 : SF := (augS 0 ixorO (varE 3))
noncomputable def pretty_flags_b1 : SF := (seqS pretty_flags_s2
  (seqS (ifS (valT (binE andO (varE 0) (varE 3))) (seqS pretty_flags_s3
  (seqS pretty_flags_s4
  (seqS (ifS (notT (valT (varE 0))) (seqS brkS
  skipS) skipS)
  skipS))) skipS)
  skipS))
noncomputable def pretty_flags_s5 : SF := (exprS (methO okL appO (varE 1) (consEs (callE hexO (consEs (varE 0) nilEs)) nilEs)))
noncomputable def pretty_flags_e1 : SF := (seqS pretty_flags_s5
  skipS)
noncomputable def pretty_flags_s6 : SF := (retS (methO okS joinO (valE (.str (Str.ofString ", "))) (consEs (varE 1) nilEs)))
noncomputable def pretty_flags_F : SF := (seqS pretty_flags_s1
  (seqS (forS false 65536 (nameA 2) (rngI (rngF (consEs (valE (.int 32)) nilEs))) pretty_flags_b1 pretty_flags_e1)
  (seqS pretty_flags_s6
  skipS)))
theorem pretty_flags_sim (hG : Facts g) : SimSs prog w g 0 (namesOf pretty_flags_st) pretty_flags_nm (bodyOf pretty_flags_st) pretty_flags_F := by
  exact (simss_cons (sims_assign 1 (sim_list sims_nil) rfl (by kernel_rfl) pretty_flags_nd fun _ => rfl)
  (simss_cons (sims_for (xs := [Str.ofString "i"]) 65536 (sima_name 2 rfl (by kernel_rfl) pretty_flags_nd (List.Mem.head _)) (simi_range (simr_range (by kernel_rfl) (by kernel_rfl) hG.gl_range (sims_cons sim_int sims_nil fun _ => rfl) ⟨⟨_, _, rfl, fun _ => rfl⟩, fun _ _ => rfl⟩)) (simss_cons (sims_assign 3 (sim_bin sim_int (sim_var 2 rfl (by kernel_rfl)) prim_shl) rfl (by kernel_rfl) pretty_flags_nd fun _ => rfl)
  (simss_cons (sims_if (simt_val (sim_bin (sim_var 0 rfl (by kernel_rfl)) (sim_var 3 rfl (by kernel_rfl)) prim_and) fun _ _ => rfl) (simss_cons (sims_expr (sim_meth (sim_var 1 rfl (by kernel_rfl)) (sims_cons (sim_meth (sim_glob (.ref 49) (by kernel_rfl) (by kernel_rfl) hG.gl_COMPILER_FLAG_NAMES) (sims_cons (sim_var 3 rfl (by kernel_rfl)) (sims_cons (sim_callB (by kernel_rfl) (by kernel_rfl) hG.gl_hex (sims_cons (sim_var 3 rfl (by kernel_rfl)) sims_nil fun _ => rfl) ⟨⟨_, _, rfl, fun _ => rfl⟩, fun _ _ => rfl⟩ prim_hex) sims_nil fun _ => rfl) fun _ => rfl) ⟨⟨_, _, rfl, fun _ => rfl⟩, fun _ _ => rfl⟩ hG.get (meth_eq (fun _ => rfl) (fun _ => rfl) rfl)) sims_nil fun _ => rfl) ⟨⟨_, _, rfl, fun _ => rfl⟩, fun _ _ => rfl⟩ prim_append (meth_eq (fun _ => rfl) (fun _ => rfl) rfl)) (fun _ eo => inter_false eo) fun _ => rfl)
  (simss_cons (sims_aug 0 (sim_var 3 rfl (by kernel_rfl)) prim_ixor rfl (by kernel_rfl) pretty_flags_nd)
  (simss_cons (sims_if (simt_not (simt_val (sim_var 0 rfl (by kernel_rfl)) fun _ _ => rfl)) (simss_cons sims_break
  simss_nil) simss_nil)
  simss_nil))) simss_nil)
  simss_nil)) (simss_cons (sims_expr (sim_meth (sim_var 1 rfl (by kernel_rfl)) (sims_cons (sim_callB (by kernel_rfl) (by kernel_rfl) hG.gl_hex (sims_cons (sim_var 0 rfl (by kernel_rfl)) sims_nil fun _ => rfl) ⟨⟨_, _, rfl, fun _ => rfl⟩, fun _ _ => rfl⟩ prim_hex) sims_nil fun _ => rfl) ⟨⟨_, _, rfl, fun _ => rfl⟩, fun _ _ => rfl⟩ prim_append (meth_eq (fun _ => rfl) (fun _ => rfl) rfl)) (fun _ eo => inter_false eo) fun _ => rfl)
  simss_nil) rfl fun _ _ => rfl)
  (simss_cons (sims_ret (sim_meth sim_str (sims_cons (sim_var 1 rfl (by kernel_rfl)) sims_nil fun _ => rfl) ⟨⟨_, _, rfl, fun _ => rfl⟩, fun _ _ => rfl⟩ prim_join (meth_eq (fun _ => rfl) (fun _ => rfl) rfl)))
  simss_nil)))
noncomputable def op_pretty_flags_1 : CF := plainF 1 3 pretty_flags_F
theorem call_pretty_flags_1 (hG : Facts g) : PrimC prog w g 1 (.ref 56) op_pretty_flags_1 :=
  prim_fnP (locs := [Str.ofString "names", Str.ofString "i", Str.ofString "flag"]) 1 (hG.fn_pretty_flags).choose_spec.1 (pretty_flags_sim hG) rfl pretty_flags_nd 3 rfl (hG.fn_pretty_flags).choose_spec.2
noncomputable def op_pretty_flags_f : CF := frameG op_pretty_flags_1
theorem call_pretty_flags_f (hG : Facts g) : PrimC prog w g 1 (.ref 56) op_pretty_flags_f := prim_frameG fun _ hk => call_pretty_flags_1 (hG.keeps hk)
/-! _law_words -/
noncomputable def law_words_nm : List Str := [Str.ofString "size", Str.ofString "words", Str.ofString "place"]
theorem law_words_nd : law_words_nm.Nodup := by decide +kernel
noncomputable def law_words_s1 : SF := (asgS 1 (lstE (consEs (valE (.str (Str.ofString "OPTIMIZED"))) (consEs (valE (.str (Str.ofString "NEWLOCALS"))) (consEs (valE (.str (Str.ofString "VARARGS"))) (consEs (valE (.str (Str.ofString "VARKEYWORDS"))) (consEs (valE (.str (Str.ofString "NESTED"))) (consEs (valE (.str (Str.ofString "GENERATOR"))) (consEs (valE (.str (Str.ofString "NOFREE"))) nilEs)))))))))
noncomputable def law_words_s2 : SF := (augS 1 iaddO (lstE (consEs (valE (.str (Str.ofString "COROUTINE"))) (consEs (valE (.str (Str.ofString "ITERABLE_COROUTINE"))) (consEs (valE (.str (Str.ofString "ASYNC_GENERATOR"))) nilEs)))))
noncomputable def law_words_s3 : SF := (exprS (methO okL appO (varE 1) (consEs (binE addO (binE addO (valE (.str (Str.ofString "0x"))) (binE getO (valE (.str (Str.ofString "1248"))) (binE modO (varE 2) (valE (.int 4))))) (binE mulO (valE (.str (Str.ofString "0"))) (binE fdivO (varE 2) (valE (.int 4))))) nilEs)))
noncomputable def law_words_b1 : SF := (seqS law_words_s3
  skipS)
noncomputable def law_words_s4 : SF := (retS (cutE (varE 1) noPart (intPart (varE 0))))
noncomputable def law_words_F : SF := (seqS law_words_s1
  (seqS law_words_s2
  (seqS (forS false 65536 (nameA 2) (rngI (rngF (consEs (valE (.int 10)) (consEs (varE 0) nilEs)))) law_words_b1 skipS)
  (seqS law_words_s4
  skipS))))
theorem law_words_sim (hG : Facts g) : SimSs prog w g 0 (namesOf law_words_st) law_words_nm (bodyOf law_words_st) law_words_F := by
  exact (simss_cons (sims_assign 1 (sim_list (sims_cons sim_str (sims_cons sim_str (sims_cons sim_str (sims_cons sim_str (sims_cons sim_str (sims_cons sim_str (sims_cons sim_str sims_nil fun _ => rfl) fun _ => rfl) fun _ => rfl) fun _ => rfl) fun _ => rfl) fun _ => rfl) fun _ => rfl)) rfl (by kernel_rfl) law_words_nd fun _ => rfl)
  (simss_cons (sims_aug 1 (sim_list (sims_cons sim_str (sims_cons sim_str (sims_cons sim_str sims_nil fun _ => rfl) fun _ => rfl) fun _ => rfl)) prim_iadd rfl (by kernel_rfl) law_words_nd)
  (simss_cons (sims_for (xs := [Str.ofString "place"]) 65536 (sima_name 2 rfl (by kernel_rfl) law_words_nd (List.Mem.head _)) (simi_range (simr_range (by kernel_rfl) (by kernel_rfl) hG.gl_range (sims_cons sim_int (sims_cons (sim_var 0 rfl (by kernel_rfl)) sims_nil fun _ => rfl) fun _ => rfl) ⟨⟨_, _, rfl, fun _ => rfl⟩, fun _ _ => rfl⟩)) (simss_cons (sims_expr (sim_meth (sim_var 1 rfl (by kernel_rfl)) (sims_cons (sim_bin (sim_bin sim_str (sim_sub_get sim_str (sim_bin (sim_var 2 rfl (by kernel_rfl)) sim_int prim_mod) fun _ _ => rfl) prim_add) (sim_bin sim_str (sim_bin (sim_var 2 rfl (by kernel_rfl)) sim_int prim_fdiv) prim_mul) prim_add) sims_nil fun _ => rfl) ⟨⟨_, _, rfl, fun _ => rfl⟩, fun _ _ => rfl⟩ prim_append (meth_eq (fun _ => rfl) (fun _ => rfl) rfl)) (fun _ eo => inter_false eo) fun _ => rfl)
  simss_nil) simss_nil rfl fun _ _ => rfl)
  (simss_cons (sims_ret (sim_slice (sim_var 1 rfl (by kernel_rfl)) simp_none (simp_some (sim_var 0 rfl (by kernel_rfl)))))
  simss_nil))))
noncomputable def op_law_words_1 : CF := plainF 1 2 law_words_F
theorem call_law_words_1 (hG : Facts g) : PrimC prog w g 1 (.ref 63) op_law_words_1 :=
  prim_fnP (locs := [Str.ofString "words", Str.ofString "place"]) 1 (hG.fn_law_words).choose_spec.1 (law_words_sim hG) rfl law_words_nd 2 rfl (hG.fn_law_words).choose_spec.2
noncomputable def op_law_words_f : CF := frameG op_law_words_1
theorem call_law_words_f (hG : Facts g) : PrimC prog w g 1 (.ref 63) op_law_words_f := prim_frameG fun _ hk => call_law_words_1 (hG.keeps hk)
/-! _law_chosen -/
noncomputable def law_chosen_nm : List Str := [Str.ofString "kind", Str.ofString "factor", Str.ofString "shift", Str.ofString "size", Str.ofString "seeds", Str.ofString "units", Str.ofString "times"]
theorem law_chosen_nd : law_chosen_nm.Nodup := by decide +kernel
noncomputable def law_chosen_s1 : SF := (asgS 3 (binE getO (tupE (cIntsEs [13, 21, 7, 31])) (binE modO (varE 0) (valE (.int 4)))))
noncomputable def law_chosen_s2 : SF := (asgS 4 (binE getO (tupE (cIntss [[0, 1, 3, 9], [0, 1, 4, 14, 16], [0, 1, 3], [0, 1, 3, 8, 12, 18]])) (binE modO (varE 0) (valE (.int 4)))))
noncomputable def law_chosen_nm1 : List Str := [Str.ofString "unit", Str.ofString "size"]
theorem law_chosen_nm1_nd : law_chosen_nm1.Nodup := by decide +kernel
noncomputable def law_chosen_s3 : SF := (asgS 5 (compE false 65536 [none, some 3] (rngI (rngF (consEs (valE (.int 1)) (consEs (varE 3) nilEs)))) (nameA 0) (orT (cmpT neO (varE 1) (valE (.int 21))) (cmpT gtO (binE mulO (binE modO (varE 0) (valE (.int 3))) (binE modO (varE 0) (valE (.int 7)))) (valE (.int 0)))) (varE 0)))
noncomputable def law_chosen_s4 : SF := (asgS 6 (binE getO (varE 5) (binE modO (varE 1) (callE lenO (consEs (varE 5) nilEs)))))
noncomputable def law_chosen_nm2 : List Str := [Str.ofString "seed", Str.ofString "times", Str.ofString "shift", Str.ofString "size"]
theorem law_chosen_nm2_nd : law_chosen_nm2.Nodup := by decide +kernel
noncomputable def law_chosen_s5 : SF := (retS (tupE (consEs (varE 3) (consEs (compE false 65536 [none, some 6, some 2, some 3] (seqI (varE 4)) (nameA 0) trueT (binE modO (binE addO (binE mulO (varE 1) (varE 0)) (varE 2)) (varE 3))) nilEs))))
noncomputable def law_chosen_F : SF := (seqS law_chosen_s1
  (seqS law_chosen_s2
  (seqS law_chosen_s3
  (seqS law_chosen_s4
  (seqS law_chosen_s5
  skipS)))))
theorem law_chosen_sim (hG : Facts g) : SimSs prog w g 0 (namesOf law_chosen_st) law_chosen_nm (bodyOf law_chosen_st) law_chosen_F := by
  exact (by refine simss_cons ?_ ?_; exact (by refine @sims_assign _ _ _ _ _ _ _ _ _ _ 3 _ ?_ ?_ ?_ ?_ ?_; exact (by refine sim_sub_get ?_ ?_ ?_; exact (by refine sim_tup ?_; exact @sims_ints _ _ _ _ _ _ _ [13, 21, 7, 31] (by kernel_rfl)); exact (sim_bin (sim_var 0 rfl (by kernel_rfl)) sim_int prim_mod); exact fun _ _ => rfl); exact rfl; kernel_rfl; exact law_chosen_nd; intro _; kernel_rfl); exact
  (by refine simss_cons ?_ ?_; exact (by refine @sims_assign _ _ _ _ _ _ _ _ _ _ 4 _ ?_ ?_ ?_ ?_ ?_; exact (by refine sim_sub_get ?_ ?_ ?_; exact (by refine sim_tup ?_; exact @sims_intss _ _ _ _ _ _ _ [[0, 1, 3, 9], [0, 1, 4, 14, 16], [0, 1, 3], [0, 1, 3, 8, 12, 18]] (by kernel_rfl)); exact (sim_bin (sim_var 0 rfl (by kernel_rfl)) sim_int prim_mod); exact fun _ _ => rfl); exact rfl; kernel_rfl; exact law_chosen_nd; intro _; kernel_rfl); exact
  (simss_cons (sims_assignComp 5 false 65536 law_chosen_nm1 [none, some 3] [Str.ofString "unit"] (CompOK.of (by kernel_rfl)) (simi_range (simr_range (by kernel_rfl) (by kernel_rfl) hG.gl_range (sims_cons sim_int (sims_cons (sim_var 3 rfl (by kernel_rfl)) sims_nil fun _ => rfl) fun _ => rfl) ⟨⟨_, _, rfl, fun _ => rfl⟩, fun _ _ => rfl⟩)) (sima_name 0 rfl (by kernel_rfl) law_chosen_nm1_nd (List.Mem.head _)) (simifs_one (simt_or (simt_cmp (sim_var 1 rfl (by kernel_rfl)) sim_int prim_ne rfl) (simt_cmp (sim_bin (sim_bin (sim_var 0 rfl (by kernel_rfl)) sim_int prim_mod) (sim_bin (sim_var 0 rfl (by kernel_rfl)) sim_int prim_mod) prim_mul) sim_int prim_gt rfl))) (sim_var 0 rfl (by kernel_rfl)) rfl (by decide) (fun _ _ => rfl) rfl (by kernel_rfl) law_chosen_nd (fun _ eo => (swaps_of eo).trans (congrArg pure (by kernel_rfl))))
  (simss_cons (sims_assign 6 (sim_sub_get (sim_var 5 rfl (by kernel_rfl)) (sim_bin (sim_var 1 rfl (by kernel_rfl)) (sim_callB (by kernel_rfl) (by kernel_rfl) hG.gl_len (sims_cons (sim_var 5 rfl (by kernel_rfl)) sims_nil fun _ => rfl) ⟨⟨_, _, rfl, fun _ => rfl⟩, fun _ _ => rfl⟩ prim_len) prim_mod) fun _ _ => rfl) rfl (by kernel_rfl) law_chosen_nd fun _ => rfl)
  (simss_cons (sims_ret (sim_tup (sims_cons (sim_var 3 rfl (by kernel_rfl)) (sims_cons (sim_comp false 65536 law_chosen_nm2 [none, some 6, some 2, some 3] [Str.ofString "seed"] (CompOK.of (by kernel_rfl)) (simi_seq (sim_var 4 rfl (by kernel_rfl))) (sima_name 0 rfl (by kernel_rfl) law_chosen_nm2_nd (List.Mem.head _)) simifs_nil (sim_bin (sim_bin (sim_bin (sim_var 1 rfl (by kernel_rfl)) (sim_var 0 rfl (by kernel_rfl)) prim_mul) (sim_var 2 rfl (by kernel_rfl)) prim_add) (sim_var 3 rfl (by kernel_rfl)) prim_mod) rfl (by decide) (fun _ _ => rfl)) sims_nil fun _ => rfl) fun _ => rfl)))
  simss_nil)))))
noncomputable def op_law_chosen_3 : CF := plainF 3 4 law_chosen_F
theorem call_law_chosen_3 (hG : Facts g) : PrimC prog w g 1 (.ref 68) op_law_chosen_3 :=
  prim_fnP (locs := [Str.ofString "size", Str.ofString "seeds", Str.ofString "units", Str.ofString "times"]) 3 (hG.fn_law_chosen).choose_spec.1 (law_chosen_sim hG) rfl law_chosen_nd 4 rfl (hG.fn_law_chosen).choose_spec.2
noncomputable def op_law_chosen_f : CF := frameG op_law_chosen_3
theorem call_law_chosen_f (hG : Facts g) : PrimC prog w g 1 (.ref 68) op_law_chosen_f := prim_frameG fun _ hk => call_law_chosen_3 (hG.keeps hk)
/-! _law_lines -/
noncomputable def law_lines_nm : List Str := [Str.ofString "size", Str.ofString "chosen", Str.ofString "words", Str.ofString "lines", Str.ofString "turn", Str.ofString "number"]
theorem law_lines_nd : law_lines_nm.Nodup := by decide +kernel
noncomputable def law_lines_s1 : SF := (asgA (tupE (consEs (callE op_law_words_f (consEs (varE 0) nilEs)) (consEs (lstE nilEs) nilEs))) (tupA 2 (consA (nameA 2) (consA (nameA 3) nilA))))
noncomputable def law_lines_nm1 : List Str := [Str.ofString "place", Str.ofString "turn", Str.ofString "size"]
theorem law_lines_nm1_nd : law_lines_nm1.Nodup := by decide +kernel
noncomputable def law_lines_s2 : SF := (asgS 5 (callE sumO (consEs (compE false 65536 [none, some 4, some 0] (seqI (varE 1)) (nameA 0) trueT (binE shlO (valE (.int 1)) (binE modO (binE addO (varE 0) (varE 1)) (varE 2)))) nilEs)))
noncomputable def law_lines_nm2 : List Str := [Str.ofString "word", Str.ofString "words"]
theorem law_lines_nm2_nd : law_lines_nm2.Nodup := by decide +kernel
noncomputable def law_lines_s3 : SF := (exprS (methO okL appO (varE 3) (consEs (compE false 65536 [none, some 2] (seqI (methO okS splO (callE op_pretty_flags_f (consEs (varE 5) nilEs)) (consEs (valE (.str (Str.ofString ", "))) nilEs))) (nameA 0) trueT (methO okL idxO (varE 1) (consEs (varE 0) nilEs))) nilEs)))
noncomputable def law_lines_b1 : SF := (seqS law_lines_s2
  (seqS law_lines_s3
  skipS))
noncomputable def law_lines_s4 : SF := (retS (varE 3))
noncomputable def law_lines_F : SF := (seqS law_lines_s1
  (seqS (forS false 65536 (nameA 4) (rngI (rngF (consEs (varE 0) nilEs))) law_lines_b1 skipS)
  (seqS law_lines_s4
  skipS)))
theorem law_lines_sim (hG : Facts g) : SimSs prog w g 1 (namesOf law_lines_st) law_lines_nm (bodyOf law_lines_st) law_lines_F := by
  exact (simss_cons (sims_assignTo (xs := [Str.ofString "words", Str.ofString "lines"]) (sim_tup (sims_cons (sim_callF (by kernel_rfl) (by kernel_rfl) hG.gl_law_words hG.ob_law_words (sims_cons (sim_var 0 rfl (by kernel_rfl)) sims_nil fun _ => rfl) ⟨⟨_, _, rfl, fun _ => rfl⟩, fun _ _ => rfl⟩ (call_law_words_f hG |>.up (by decide))) (sims_cons (sim_list sims_nil) sims_nil fun _ => rfl) fun _ => rfl)) (sima_tup (simas_cons (sima_name 2 rfl (by kernel_rfl) law_lines_nd (List.Mem.head _)) (simas_cons (sima_name 3 rfl (by kernel_rfl) law_lines_nd (List.Mem.tail _ (List.Mem.head _))) simas_nil fun _ => rfl) fun _ => rfl) (fun _ => rfl) (fun _ => rfl)) (fun _ => rfl) (unswapped_of (by kernel_rfl)) fun _ => rfl)
  (simss_cons (sims_for (xs := [Str.ofString "turn"]) 65536 (sima_name 4 rfl (by kernel_rfl) law_lines_nd (List.Mem.head _)) (simi_range (simr_range (by kernel_rfl) (by kernel_rfl) hG.gl_range (sims_cons (sim_var 0 rfl (by kernel_rfl)) sims_nil fun _ => rfl) ⟨⟨_, _, rfl, fun _ => rfl⟩, fun _ _ => rfl⟩)) (simss_cons (sims_assign 5 (sim_callB (by kernel_rfl) (by kernel_rfl) hG.gl_sum (sims_cons (sim_comp false 65536 law_lines_nm1 [none, some 4, some 0] [Str.ofString "place"] (CompOK.of (by kernel_rfl)) (simi_seq (sim_var 1 rfl (by kernel_rfl))) (sima_name 0 rfl (by kernel_rfl) law_lines_nm1_nd (List.Mem.head _)) simifs_nil (sim_bin sim_int (sim_bin (sim_bin (sim_var 0 rfl (by kernel_rfl)) (sim_var 1 rfl (by kernel_rfl)) prim_add) (sim_var 2 rfl (by kernel_rfl)) prim_mod) prim_shl) rfl (by decide) (fun _ _ => rfl)) sims_nil fun _ => rfl) ⟨⟨_, _, rfl, fun _ => rfl⟩, fun _ _ => rfl⟩ prim_sum) rfl (by kernel_rfl) law_lines_nd fun _ => rfl)
  (simss_cons (sims_expr (sim_meth (sim_var 3 rfl (by kernel_rfl)) (sims_cons (sim_comp false 65536 law_lines_nm2 [none, some 2] [Str.ofString "word"] (CompOK.of (by kernel_rfl)) (simi_seq (sim_meth (sim_callF (by kernel_rfl) (by kernel_rfl) hG.gl_pretty_flags hG.ob_pretty_flags (sims_cons (sim_var 5 rfl (by kernel_rfl)) sims_nil fun _ => rfl) ⟨⟨_, _, rfl, fun _ => rfl⟩, fun _ _ => rfl⟩ (call_pretty_flags_f hG |>.up (by decide))) (sims_cons sim_str sims_nil fun _ => rfl) ⟨⟨_, _, rfl, fun _ => rfl⟩, fun _ _ => rfl⟩ prim_split (meth_eq (fun _ => rfl) (fun _ => rfl) rfl))) (sima_name 0 rfl (by kernel_rfl) law_lines_nm2_nd (List.Mem.head _)) simifs_nil (sim_meth (sim_var 1 rfl (by kernel_rfl)) (sims_cons (sim_var 0 rfl (by kernel_rfl)) sims_nil fun _ => rfl) ⟨⟨_, _, rfl, fun _ => rfl⟩, fun _ _ => rfl⟩ prim_index (meth_eq (fun _ => rfl) (fun _ => rfl) rfl)) rfl (by decide) (fun _ _ => rfl)) sims_nil fun _ => rfl) ⟨⟨_, _, rfl, fun _ => rfl⟩, fun _ _ => rfl⟩ prim_append (meth_eq (fun _ => rfl) (fun _ => rfl) rfl)) (fun _ eo => inter_false eo) fun _ => rfl)
  simss_nil)) simss_nil rfl fun _ _ => rfl)
  (simss_cons (sims_ret (sim_var 3 rfl (by kernel_rfl)))
  simss_nil)))
noncomputable def op_law_lines_2 : CF := plainF 2 4 law_lines_F
theorem call_law_lines_2 (hG : Facts g) : PrimC prog w g 2 (.ref 73) op_law_lines_2 :=
  prim_fnP (locs := [Str.ofString "words", Str.ofString "lines", Str.ofString "turn", Str.ofString "number"]) 2 (hG.fn_law_lines).choose_spec.1 (law_lines_sim hG) rfl law_lines_nd 4 rfl (hG.fn_law_lines).choose_spec.2
noncomputable def op_law_lines_f : CF := frameG op_law_lines_2
theorem call_law_lines_f (hG : Facts g) : PrimC prog w g 2 (.ref 73) op_law_lines_f := prim_frameG fun _ hk => call_law_lines_2 (hG.keeps hk)
/-! _law_marks -/
noncomputable def law_marks_nm : List Str := [Str.ofString "size", Str.ofString "lines", Str.ofString "marks", Str.ofString "line", Str.ofString "row", Str.ofString "place"]
theorem law_marks_nd : law_marks_nm.Nodup := by decide +kernel
noncomputable def law_marks_s1 : SF := (asgS 2 (lstE nilEs))
noncomputable def law_marks_s2 : SF := (asgS 4 (binE mulO (lstE (consEs (valE (.int 0)) nilEs)) (varE 0)))
noncomputable def law_marks_s3 : SF := (putS setO (valE (.int 1)) (varE 4) (varE 5))
noncomputable def law_marks_b1 : SF := (seqS law_marks_s3
  skipS)
noncomputable def law_marks_s4 : SF := (augS 2 iaddO (varE 4))
noncomputable def law_marks_b2 : SF := (seqS law_marks_s2
  (seqS (forS false 65536 (nameA 5) (seqI (varE 3)) law_marks_b1 skipS)
  (seqS law_marks_s4
  skipS)))
noncomputable def law_marks_s5 : SF := (retS (callE bytO (consEs (varE 2) nilEs)))
noncomputable def law_marks_F : SF := (seqS law_marks_s1
  (seqS (forS false 65536 (nameA 3) (seqI (varE 1)) law_marks_b2 skipS)
  (seqS law_marks_s5
  skipS)))
theorem law_marks_sim (hG : Facts g) : SimSs prog w g 0 (namesOf law_marks_st) law_marks_nm (bodyOf law_marks_st) law_marks_F := by
  exact (simss_cons (sims_assign 2 (sim_list sims_nil) rfl (by kernel_rfl) law_marks_nd fun _ => rfl)
  (simss_cons (sims_for (xs := [Str.ofString "line"]) 65536 (sima_name 3 rfl (by kernel_rfl) law_marks_nd (List.Mem.head _)) (simi_seq (sim_var 1 rfl (by kernel_rfl))) (simss_cons (sims_assign 4 (sim_bin (sim_list (sims_cons sim_int sims_nil fun _ => rfl)) (sim_var 0 rfl (by kernel_rfl)) prim_mul) rfl (by kernel_rfl) law_marks_nd fun _ => rfl)
  (simss_cons (sims_for (xs := [Str.ofString "place"]) 65536 (sima_name 5 rfl (by kernel_rfl) law_marks_nd (List.Mem.head _)) (simi_seq (sim_var 3 rfl (by kernel_rfl))) (simss_cons (sims_put sim_int (sim_var 4 rfl (by kernel_rfl)) (sim_var 5 rfl (by kernel_rfl)) prim_set fun _ => rfl)
  simss_nil) simss_nil rfl fun _ _ => rfl)
  (simss_cons (sims_aug 2 (sim_var 4 rfl (by kernel_rfl)) prim_iadd rfl (by kernel_rfl) law_marks_nd)
  simss_nil))) simss_nil rfl fun _ _ => rfl)
  (simss_cons (sims_ret (sim_callT (by kernel_rfl) (by kernel_rfl) hG.gl_bytes (sims_cons (sim_var 2 rfl (by kernel_rfl)) sims_nil fun _ => rfl) ⟨⟨_, _, rfl, fun _ => rfl⟩, fun _ _ => rfl⟩ prim_bytes))
  simss_nil)))
noncomputable def op_law_marks_2 : CF := plainF 2 4 law_marks_F
theorem call_law_marks_2 (hG : Facts g) : PrimC prog w g 1 (.ref 80) op_law_marks_2 :=
  prim_fnP (locs := [Str.ofString "marks", Str.ofString "line", Str.ofString "row", Str.ofString "place"]) 2 (hG.fn_law_marks).choose_spec.1 (law_marks_sim hG) rfl law_marks_nd 4 rfl (hG.fn_law_marks).choose_spec.2
noncomputable def op_law_marks_f : CF := frameG op_law_marks_2
theorem call_law_marks_f (hG : Facts g) : PrimC prog w g 1 (.ref 80) op_law_marks_f := prim_frameG fun _ hk => call_law_marks_2 (hG.keeps hk)
/-! _law_backs -/
noncomputable def law_backs_nm : List Str := [Str.ofString "size", Str.ofString "chosen", Str.ofString "backs", Str.ofString "turn", Str.ofString "lies"]
theorem law_backs_nd : law_backs_nm.Nodup := by decide +kernel
noncomputable def law_backs_s1 : SF := (asgS 2 (lstE nilEs))
noncomputable def law_backs_nm1 : List Str := [Str.ofString "place", Str.ofString "size", Str.ofString "turn"]
theorem law_backs_nm1_nd : law_backs_nm1.Nodup := by decide +kernel
noncomputable def law_backs_s2 : SF := (asgS 4 (compE false 65536 [none, some 0, some 3] (seqI (varE 1)) (nameA 0) trueT (binE modO (binE subO (binE subO (binE subO (varE 1) (valE (.int 1))) (varE 0)) (varE 2)) (varE 1))))
noncomputable def law_backs_nm2 : List Str := [Str.ofString "spot", Str.ofString "lies"]
theorem law_backs_nm2_nd : law_backs_nm2.Nodup := by decide +kernel
noncomputable def law_backs_s3 : SF := (augS 2 iaddO (compE false 65536 [none, some 4] (rngI (rngF (consEs (varE 0) nilEs))) (nameA 0) trueT (ifE (cmpT inO (varE 0) (varE 1)) (valE (.int 1)) (valE (.int 0)))))
noncomputable def law_backs_b1 : SF := (seqS law_backs_s2
  (seqS law_backs_s3
  skipS))
noncomputable def law_backs_s4 : SF := (retS (callE bytO (consEs (varE 2) nilEs)))
noncomputable def law_backs_F : SF := (seqS law_backs_s1
  (seqS (forS false 65536 (nameA 3) (rngI (rngF (consEs (callE lenO (consEs (varE 1) nilEs)) nilEs))) law_backs_b1 skipS)
  (seqS law_backs_s4
  skipS)))
theorem law_backs_sim (hG : Facts g) : SimSs prog w g 0 (namesOf law_backs_st) law_backs_nm (bodyOf law_backs_st) law_backs_F := by
  exact (simss_cons (sims_assign 2 (sim_list sims_nil) rfl (by kernel_rfl) law_backs_nd fun _ => rfl)
  (simss_cons (sims_for (xs := [Str.ofString "turn"]) 65536 (sima_name 3 rfl (by kernel_rfl) law_backs_nd (List.Mem.head _)) (simi_range (simr_range (by kernel_rfl) (by kernel_rfl) hG.gl_range (sims_cons (sim_callB (by kernel_rfl) (by kernel_rfl) hG.gl_len (sims_cons (sim_var 1 rfl (by kernel_rfl)) sims_nil fun _ => rfl) ⟨⟨_, _, rfl, fun _ => rfl⟩, fun _ _ => rfl⟩ prim_len) sims_nil fun _ => rfl) ⟨⟨_, _, rfl, fun _ => rfl⟩, fun _ _ => rfl⟩)) (simss_cons (sims_assignE 4 (sim_comp false 65536 law_backs_nm1 [none, some 0, some 3] [Str.ofString "place"] (CompOK.of (by kernel_rfl)) (simi_seq (sim_var 1 rfl (by kernel_rfl))) (sima_name 0 rfl (by kernel_rfl) law_backs_nm1_nd (List.Mem.head _)) simifs_nil (sim_bin (sim_bin (sim_bin (sim_bin (sim_var 1 rfl (by kernel_rfl)) sim_int prim_sub) (sim_var 0 rfl (by kernel_rfl)) prim_sub) (sim_var 2 rfl (by kernel_rfl)) prim_sub) (sim_var 1 rfl (by kernel_rfl)) prim_mod) rfl (by decide) (fun _ _ => rfl)) rfl (by kernel_rfl) law_backs_nd (fun _ eo => (swaps_of eo).trans (congrArg pure (by kernel_rfl))))
  (simss_cons (sims_aug 2 (sim_comp false 65536 law_backs_nm2 [none, some 4] [Str.ofString "spot"] (CompOK.of (by kernel_rfl)) (simi_range (simr_range (by kernel_rfl) (by kernel_rfl) hG.gl_range (sims_cons (sim_var 0 rfl (by kernel_rfl)) sims_nil fun _ => rfl) ⟨⟨_, _, rfl, fun _ => rfl⟩, fun _ _ => rfl⟩)) (sima_name 0 rfl (by kernel_rfl) law_backs_nm2_nd (List.Mem.head _)) simifs_nil (sim_ifexp (simt_cmp (sim_var 0 rfl (by kernel_rfl)) (sim_var 1 rfl (by kernel_rfl)) prim_in rfl) sim_int sim_int) rfl (by decide) (fun _ _ => rfl)) prim_iadd rfl (by kernel_rfl) law_backs_nd)
  simss_nil)) simss_nil rfl fun _ _ => rfl)
  (simss_cons (sims_ret (sim_callT (by kernel_rfl) (by kernel_rfl) hG.gl_bytes (sims_cons (sim_var 2 rfl (by kernel_rfl)) sims_nil fun _ => rfl) ⟨⟨_, _, rfl, fun _ => rfl⟩, fun _ _ => rfl⟩ prim_bytes))
  simss_nil)))
noncomputable def op_law_backs_2 : CF := plainF 2 3 law_backs_F
theorem call_law_backs_2 (hG : Facts g) : PrimC prog w g 1 (.ref 85) op_law_backs_2 :=
  prim_fnP (locs := [Str.ofString "backs", Str.ofString "turn", Str.ofString "lies"]) 2 (hG.fn_law_backs).choose_spec.1 (law_backs_sim hG) rfl law_backs_nd 3 rfl (hG.fn_law_backs).choose_spec.2
noncomputable def op_law_backs_f : CF := frameG op_law_backs_2
theorem call_law_backs_f (hG : Facts g) : PrimC prog w g 1 (.ref 85) op_law_backs_f := prim_frameG fun _ hk => call_law_backs_2 (hG.keeps hk)
/-! _law_common -/
noncomputable def law_common_nm : List Str := [Str.ofString "size", Str.ofString "chosen", Str.ofString "turned", Str.ofString "common", Str.ofString "one", Str.ofString "other", Str.ofString "turn"]
theorem law_common_nd : law_common_nm.Nodup := by decide +kernel
noncomputable def law_common_nm1 : List Str := [Str.ofString "turn"]
theorem law_common_nm1_nd : law_common_nm1.Nodup := by decide +kernel
noncomputable def law_common_s1 : SF := (asgS 3 (compE false 65536 [none] (rngI (rngF (consEs (varE 0) nilEs))) (nameA 0) trueT (lstE nilEs)))
noncomputable def law_common_s2 : SF := (asgS 6 (binE modO (binE subO (binE subO (binE subO (unE negO (valE (.int 1))) (varE 2)) (varE 4)) (varE 5)) (varE 0)))
noncomputable def law_common_s3 : SF := (exprS (methO okL appO (binE getO (varE 3) (varE 6)) (consEs (binE modO (binE addO (varE 4) (varE 6)) (varE 0)) nilEs)))
noncomputable def law_common_b1 : SF := (seqS law_common_s2
  (seqS law_common_s3
  skipS))
noncomputable def law_common_b2 : SF := (seqS (forS false 65536 (nameA 5) (seqI (varE 1)) law_common_b1 skipS)
  skipS)
noncomputable def law_common_nm2 : List Str := [Str.ofString "spots"]
theorem law_common_nm2_nd : law_common_nm2.Nodup := by decide +kernel
noncomputable def law_common_s4 : SF := (retS (compE false 65536 [none] (seqI (varE 3)) (nameA 0) trueT (callE sortedO (consEs (varE 0) nilEs))))
noncomputable def law_common_F : SF := (seqS law_common_s1
  (seqS (forS false 65536 (nameA 4) (seqI (varE 1)) law_common_b2 skipS)
  (seqS law_common_s4
  skipS)))
theorem law_common_sim (hG : Facts g) : SimSs prog w g 0 (namesOf law_common_st) law_common_nm (bodyOf law_common_st) law_common_F := by
  exact (simss_cons (sims_assignComp 3 false 65536 law_common_nm1 [none] [Str.ofString "turn"] (CompOK.of (by kernel_rfl)) (simi_range (simr_range (by kernel_rfl) (by kernel_rfl) hG.gl_range (sims_cons (sim_var 0 rfl (by kernel_rfl)) sims_nil fun _ => rfl) ⟨⟨_, _, rfl, fun _ => rfl⟩, fun _ _ => rfl⟩)) (sima_name 0 rfl (by kernel_rfl) law_common_nm1_nd (List.Mem.head _)) simifs_nil (sim_list sims_nil) rfl (by decide) (fun _ _ => rfl) rfl (by kernel_rfl) law_common_nd (fun _ eo => (swaps_of eo).trans (congrArg pure (by kernel_rfl))))
  (simss_cons (sims_for (xs := [Str.ofString "one"]) 65536 (sima_name 4 rfl (by kernel_rfl) law_common_nd (List.Mem.head _)) (simi_seq (sim_var 1 rfl (by kernel_rfl))) (simss_cons (sims_for (xs := [Str.ofString "other"]) 65536 (sima_name 5 rfl (by kernel_rfl) law_common_nd (List.Mem.head _)) (simi_seq (sim_var 1 rfl (by kernel_rfl))) (simss_cons (sims_assign 6 (sim_bin (sim_bin (sim_bin (sim_bin (sim_un sim_int prim_neg) (sim_var 2 rfl (by kernel_rfl)) prim_sub) (sim_var 4 rfl (by kernel_rfl)) prim_sub) (sim_var 5 rfl (by kernel_rfl)) prim_sub) (sim_var 0 rfl (by kernel_rfl)) prim_mod) rfl (by kernel_rfl) law_common_nd fun _ => rfl)
  (simss_cons (sims_expr (sim_meth (sim_sub_get (sim_var 3 rfl (by kernel_rfl)) (sim_var 6 rfl (by kernel_rfl)) fun _ _ => rfl) (sims_cons (sim_bin (sim_bin (sim_var 4 rfl (by kernel_rfl)) (sim_var 6 rfl (by kernel_rfl)) prim_add) (sim_var 0 rfl (by kernel_rfl)) prim_mod) sims_nil fun _ => rfl) ⟨⟨_, _, rfl, fun _ => rfl⟩, fun _ _ => rfl⟩ prim_append (meth_eq (fun _ => rfl) (fun _ => rfl) rfl)) (fun _ eo => inter_false eo) fun _ => rfl)
  simss_nil)) simss_nil rfl fun _ _ => rfl)
  simss_nil) simss_nil rfl fun _ _ => rfl)
  (simss_cons (sims_ret (sim_comp false 65536 law_common_nm2 [none] [Str.ofString "spots"] (CompOK.of (by kernel_rfl)) (simi_seq (sim_var 3 rfl (by kernel_rfl))) (sima_name 0 rfl (by kernel_rfl) law_common_nm2_nd (List.Mem.head _)) simifs_nil (sim_callB (by kernel_rfl) (by kernel_rfl) hG.gl_sorted (sims_cons (sim_var 0 rfl (by kernel_rfl)) sims_nil fun _ => rfl) ⟨⟨_, _, rfl, fun _ => rfl⟩, fun _ _ => rfl⟩ prim_sorted) rfl (by decide) (fun _ _ => rfl)))
  simss_nil)))
noncomputable def op_law_common_3 : CF := plainF 3 4 law_common_F
theorem call_law_common_3 (hG : Facts g) : PrimC prog w g 1 (.ref 90) op_law_common_3 :=
  prim_fnP (locs := [Str.ofString "common", Str.ofString "one", Str.ofString "other", Str.ofString "turn"]) 3 (hG.fn_law_common).choose_spec.1 (law_common_sim hG) rfl law_common_nd 4 rfl (hG.fn_law_common).choose_spec.2
noncomputable def op_law_common_f : CF := frameG op_law_common_3
theorem call_law_common_f (hG : Facts g) : PrimC prog w g 1 (.ref 90) op_law_common_f := prim_frameG fun _ hk => call_law_common_3 (hG.keeps hk)
/-! _law_meets -/
noncomputable def law_meets_nm : List Str := [Str.ofString "size", Str.ofString "chosen", Str.ofString "touching", Str.ofString "gaps", Str.ofString "one", Str.ofString "other", Str.ofString "meets", Str.ofString "rank", Str.ofString "turn", Str.ofString "early"]
theorem law_meets_nd : law_meets_nm.Nodup := by decide +kernel
noncomputable def law_meets_s1 : SF := (asgS 3 (lstE nilEs))
noncomputable def law_meets_s2 : SF := (exprS (callE op_insort_right_2 (consEs (varE 3) (consEs (tupE (consEs (binE modO (binE subO (varE 4) (varE 5)) (varE 0)) (consEs (varE 4) nilEs))) nilEs))))
noncomputable def law_meets_b1 : SF := (seqS (ifS (cmpT neO (varE 4) (varE 5)) (seqS law_meets_s2
  skipS) skipS)
  skipS)
noncomputable def law_meets_b2 : SF := (seqS (forS false 65536 (nameA 5) (seqI (varE 1)) law_meets_b1 skipS)
  skipS)
noncomputable def law_meets_nm1 : List Str := [Str.ofString "gap", Str.ofString "one"]
theorem law_meets_nm1_nd : law_meets_nm1.Nodup := by decide +kernel
noncomputable def law_meets_s3 : SF := (retS (lstE nilEs))
noncomputable def law_meets_s4 : SF := (asgS 6 (lstE nilEs))
noncomputable def law_meets_s5 : SF := (asgS 4 (binE getO (binE getO (varE 3) (callE op_bisect_left_2 (consEs (varE 3) (consEs (tupE (consEs (binE subO (varE 8) (varE 9)) (consEs (valE (.int 0)) nilEs))) nilEs)))) (valE (.int 1))))
noncomputable def law_meets_s6 : SF := (exprS (methO okL appO (varE 6) (consEs (binE modO (binE addO (varE 9) (varE 4)) (varE 0)) nilEs)))
noncomputable def law_meets_b3 : SF := (seqS law_meets_s5
  (seqS law_meets_s6
  skipS))
noncomputable def law_meets_b4 : SF := (seqS (forS false 65536 (nameA 9) (seqI (cutE (varE 2) noPart (intPart (varE 7)))) law_meets_b3 skipS)
  skipS)
noncomputable def law_meets_s7 : SF := (retS (varE 6))
noncomputable def law_meets_F : SF := (seqS law_meets_s1
  (seqS (forS false 65536 (nameA 4) (seqI (varE 1)) law_meets_b2 skipS)
  (seqS (ifS (cmpT neO (compE true 65536 [none, none] (seqI (varE 3)) (tupA 2 (consA (nameA 0) (consA (nameA 1) nilA))) trueT (varE 0)) (lstRngE (rngF (consEs (valE (.int 1)) (consEs (varE 0) nilEs))))) (seqS law_meets_s3
  skipS) skipS)
  (seqS law_meets_s4
  (seqS (forS true 65536 (tupA 2 (consA (nameA 7) (consA (nameA 8) nilA))) (enumI (consEs (varE 2) nilEs)) law_meets_b4 skipS)
  (seqS law_meets_s7
  skipS))))))
theorem law_meets_sim (hG : Facts g) : SimSs prog w g 2 (namesOf law_meets_st) law_meets_nm (bodyOf law_meets_st) law_meets_F := by
  exact (simss_cons (sims_assign 3 (sim_list sims_nil) rfl (by kernel_rfl) law_meets_nd fun _ => rfl)
  (simss_cons (sims_for (xs := [Str.ofString "one"]) 65536 (sima_name 4 rfl (by kernel_rfl) law_meets_nd (List.Mem.head _)) (simi_seq (sim_var 1 rfl (by kernel_rfl))) (simss_cons (sims_for (xs := [Str.ofString "other"]) 65536 (sima_name 5 rfl (by kernel_rfl) law_meets_nd (List.Mem.head _)) (simi_seq (sim_var 1 rfl (by kernel_rfl))) (simss_cons (sims_if (simt_cmp (sim_var 4 rfl (by kernel_rfl)) (sim_var 5 rfl (by kernel_rfl)) prim_ne rfl) (simss_cons (sims_expr (sim_callF (by kernel_rfl) (by kernel_rfl) hG.gl_insort_right hG.ob_insort_right (sims_cons (sim_var 3 rfl (by kernel_rfl)) (sims_cons (sim_tup (sims_cons (sim_bin (sim_bin (sim_var 4 rfl (by kernel_rfl)) (sim_var 5 rfl (by kernel_rfl)) prim_sub) (sim_var 0 rfl (by kernel_rfl)) prim_mod) (sims_cons (sim_var 4 rfl (by kernel_rfl)) sims_nil fun _ => rfl) fun _ => rfl)) sims_nil fun _ => star_tup _ _ _ _ _) fun _ => rfl) ⟨⟨_, _, rfl, fun _ => rfl⟩, fun _ _ => rfl⟩ (call_insort_right_2 hG |>.up (by decide))) (fun _ eo => inter_false eo) fun _ => rfl)
  simss_nil) simss_nil)
  simss_nil) simss_nil rfl fun _ _ => rfl)
  simss_nil) simss_nil rfl fun _ _ => rfl)
  (simss_cons (sims_if (simt_cmp (sim_comp true 65536 law_meets_nm1 [none, none] [Str.ofString "gap", Str.ofString "one"] (CompOK.of (by kernel_rfl)) (simi_seq (sim_var 3 rfl (by kernel_rfl))) (sima_tup (simas_cons (sima_name 0 rfl (by kernel_rfl) law_meets_nm1_nd (List.Mem.head _)) (simas_cons (sima_name 1 rfl (by kernel_rfl) law_meets_nm1_nd (List.Mem.tail _ (List.Mem.head _))) simas_nil fun _ => rfl) fun _ => rfl) (fun _ => rfl) (fun _ => rfl)) simifs_nil (sim_var 0 rfl (by kernel_rfl)) rfl (by decide) (fun _ _ => rfl)) (sim_listRange (by kernel_rfl) (by kernel_rfl) hG.gl_list (simr_range (by kernel_rfl) (by kernel_rfl) hG.gl_range (sims_cons sim_int (sims_cons (sim_var 0 rfl (by kernel_rfl)) sims_nil fun _ => rfl) fun _ => rfl) ⟨⟨_, _, rfl, fun _ => rfl⟩, fun _ _ => rfl⟩) fun _ => rfl) prim_ne rfl) (simss_cons (sims_ret (sim_list sims_nil))
  simss_nil) simss_nil)
  (simss_cons (sims_assign 6 (sim_list sims_nil) rfl (by kernel_rfl) law_meets_nd fun _ => rfl)
  (simss_cons (sims_for (xs := [Str.ofString "rank", Str.ofString "turn"]) 65536 (sima_tup (simas_cons (sima_name 7 rfl (by kernel_rfl) law_meets_nd (List.Mem.head _)) (simas_cons (sima_name 8 rfl (by kernel_rfl) law_meets_nd (List.Mem.tail _ (List.Mem.head _))) simas_nil fun _ => rfl) fun _ => rfl) (fun _ => rfl) (fun _ => rfl)) (simi_enum (by kernel_rfl) (by kernel_rfl) hG.gl_enumerate (sims_cons (sim_var 2 rfl (by kernel_rfl)) sims_nil fun _ => rfl) ⟨⟨_, _, rfl, fun _ => rfl⟩, fun _ _ => rfl⟩) (simss_cons (sims_for (xs := [Str.ofString "early"]) 65536 (sima_name 9 rfl (by kernel_rfl) law_meets_nd (List.Mem.head _)) (simi_seq (sim_slice (sim_var 2 rfl (by kernel_rfl)) simp_none (simp_some (sim_var 7 rfl (by kernel_rfl))))) (simss_cons (sims_assign 4 (sim_sub_get (sim_sub_get (sim_var 3 rfl (by kernel_rfl)) (sim_callF (by kernel_rfl) (by kernel_rfl) hG.gl_bisect_left hG.ob_bisect_left (sims_cons (sim_var 3 rfl (by kernel_rfl)) (sims_cons (sim_tup (sims_cons (sim_bin (sim_var 8 rfl (by kernel_rfl)) (sim_var 9 rfl (by kernel_rfl)) prim_sub) (sims_cons sim_int sims_nil fun _ => rfl) fun _ => rfl)) sims_nil fun _ => star_tup _ _ _ _ _) fun _ => rfl) ⟨⟨_, _, rfl, fun _ => rfl⟩, fun _ _ => rfl⟩ (call_bisect_left_2 hG |>.up (by decide))) fun _ _ => rfl) sim_int fun _ _ => rfl) rfl (by kernel_rfl) law_meets_nd fun _ => rfl)
  (simss_cons (sims_expr (sim_meth (sim_var 6 rfl (by kernel_rfl)) (sims_cons (sim_bin (sim_bin (sim_var 9 rfl (by kernel_rfl)) (sim_var 4 rfl (by kernel_rfl)) prim_add) (sim_var 0 rfl (by kernel_rfl)) prim_mod) sims_nil fun _ => rfl) ⟨⟨_, _, rfl, fun _ => rfl⟩, fun _ _ => rfl⟩ prim_append (meth_eq (fun _ => rfl) (fun _ => rfl) rfl)) (fun _ eo => inter_false eo) fun _ => rfl)
  simss_nil)) simss_nil rfl fun _ _ => rfl)
  simss_nil) simss_nil rfl fun _ _ => rfl)
  (simss_cons (sims_ret (sim_var 6 rfl (by kernel_rfl)))
  simss_nil))))))
noncomputable def op_law_meets_3 : CF := plainF 3 7 law_meets_F
theorem call_law_meets_3 (hG : Facts g) : PrimC prog w g 3 (.ref 95) op_law_meets_3 :=
  prim_fnP (locs := [Str.ofString "gaps", Str.ofString "one", Str.ofString "other", Str.ofString "meets", Str.ofString "rank", Str.ofString "turn", Str.ofString "early"]) 3 (hG.fn_law_meets).choose_spec.1 (law_meets_sim hG) rfl law_meets_nd 7 rfl (hG.fn_law_meets).choose_spec.2
noncomputable def op_law_meets_f : CF := frameG op_law_meets_3
theorem call_law_meets_f (hG : Facts g) : PrimC prog w g 3 (.ref 95) op_law_meets_f := prim_frameG fun _ hk => call_law_meets_3 (hG.keeps hk)
/-! _law_through -/
noncomputable def law_through_nm : List Str := [Str.ofString "few", Str.ofString "oval", Str.ofString "meets"]
theorem law_through_nd : law_through_nm.Nodup := by decide +kernel
noncomputable def law_through_nm1 : List Str := [Str.ofString "spot", Str.ofString "mark", Str.ofString "meets"]
theorem law_through_nm1_nd : law_through_nm1.Nodup := by decide +kernel
noncomputable def law_through_s1 : SF := (retS (compE true 65536 [none, none, some 2] (enumI (consEs (varE 1) nilEs)) (tupA 2 (consA (nameA 0) (consA (nameA 1) nilA))) trueT (ifE (cmpT eqO (varE 1) (valE (.int 1))) (valE (.int 1)) (ifE (cmpT inO (varE 0) (varE 2)) (valE (.int 2)) (valE (.int 0))))))
noncomputable def law_through_nm2 : List Str := [Str.ofString "spot", Str.ofString "meets", Str.ofString "few"]
theorem law_through_nm2_nd : law_through_nm2.Nodup := by decide +kernel
noncomputable def law_through_s2 : SF := (retS (compE false 65536 [none, some 2, some 0] (rngI (rngF (consEs (callE lenO (consEs (varE 1) nilEs)) nilEs))) (nameA 0) trueT (ifE (cmpT eqO (varE 0) (binE getO (varE 1) (valE (.int 0)))) (varE 2) (valE (.int 1)))))
noncomputable def law_through_F : SF := (seqS (ifS (cmpT eqO (binE modO (varE 0) (valE (.int 2))) (valE (.int 0))) (seqS law_through_s1
  skipS) skipS)
  (seqS law_through_s2
  skipS))
theorem law_through_sim (hG : Facts g) : SimSs prog w g 0 (namesOf law_through_st) law_through_nm (bodyOf law_through_st) law_through_F := by
  exact (simss_cons (sims_if (simt_cmp (sim_bin (sim_var 0 rfl (by kernel_rfl)) sim_int prim_mod) sim_int prim_eq rfl) (simss_cons (sims_ret (sim_comp true 65536 law_through_nm1 [none, none, some 2] [Str.ofString "spot", Str.ofString "mark"] (CompOK.of (by kernel_rfl)) (simi_enum (by kernel_rfl) (by kernel_rfl) hG.gl_enumerate (sims_cons (sim_var 1 rfl (by kernel_rfl)) sims_nil fun _ => rfl) ⟨⟨_, _, rfl, fun _ => rfl⟩, fun _ _ => rfl⟩) (sima_tup (simas_cons (sima_name 0 rfl (by kernel_rfl) law_through_nm1_nd (List.Mem.head _)) (simas_cons (sima_name 1 rfl (by kernel_rfl) law_through_nm1_nd (List.Mem.tail _ (List.Mem.head _))) simas_nil fun _ => rfl) fun _ => rfl) (fun _ => rfl) (fun _ => rfl)) simifs_nil (sim_ifexp (simt_cmp (sim_var 1 rfl (by kernel_rfl)) sim_int prim_eq rfl) sim_int (sim_ifexp (simt_cmp (sim_var 0 rfl (by kernel_rfl)) (sim_var 2 rfl (by kernel_rfl)) prim_in rfl) sim_int sim_int)) rfl (by decide) (fun _ _ => rfl)))
  simss_nil) simss_nil)
  (simss_cons (sims_ret (sim_comp false 65536 law_through_nm2 [none, some 2, some 0] [Str.ofString "spot"] (CompOK.of (by kernel_rfl)) (simi_range (simr_range (by kernel_rfl) (by kernel_rfl) hG.gl_range (sims_cons (sim_callB (by kernel_rfl) (by kernel_rfl) hG.gl_len (sims_cons (sim_var 1 rfl (by kernel_rfl)) sims_nil fun _ => rfl) ⟨⟨_, _, rfl, fun _ => rfl⟩, fun _ _ => rfl⟩ prim_len) sims_nil fun _ => rfl) ⟨⟨_, _, rfl, fun _ => rfl⟩, fun _ _ => rfl⟩)) (sima_name 0 rfl (by kernel_rfl) law_through_nm2_nd (List.Mem.head _)) simifs_nil (sim_ifexp (simt_cmp (sim_var 0 rfl (by kernel_rfl)) (sim_sub_get (sim_var 1 rfl (by kernel_rfl)) sim_int fun _ _ => rfl) prim_eq rfl) (sim_var 2 rfl (by kernel_rfl)) sim_int) rfl (by decide) (fun _ _ => rfl)))
  simss_nil))
noncomputable def op_law_through_3 : CF := plainF 3 0 law_through_F
theorem call_law_through_3 (hG : Facts g) : PrimC prog w g 1 (.ref 100) op_law_through_3 :=
  prim_fnP (locs := []) 3 (hG.fn_law_through).choose_spec.1 (law_through_sim hG) rfl law_through_nd 0 rfl (hG.fn_law_through).choose_spec.2
noncomputable def op_law_through_f : CF := frameG op_law_through_3
theorem call_law_through_f (hG : Facts g) : PrimC prog w g 1 (.ref 100) op_law_through_f := prim_frameG fun _ hk => call_law_through_3 (hG.keeps hk)
/-! _byteswap -/
noncomputable def byteswap_nm : List Str := [Str.ofString "data", Str.ofString "width", Str.ofString "swapped_data", Str.ofString "i", Str.ofString "j"]
theorem byteswap_nd : byteswap_nm.Nodup := by decide +kernel
noncomputable def byteswap_s1 : SF := (asgS 2 (callE baO (consEs (callE lenO (consEs (varE 0) nilEs)) nilEs)))
noncomputable def byteswap_s2 : SF := (putS setO (binE getO (varE 0) (binE addO (varE 3) (varE 4))) (varE 2) (binE subO (binE subO (binE addO (varE 3) (varE 1)) (valE (.int 1))) (varE 4)))
noncomputable def byteswap_b1 : SF := (seqS byteswap_s2
  skipS)
noncomputable def byteswap_b2 : SF := (seqS (forS false 65536 (nameA 4) (rngI (rngF (consEs (varE 1) nilEs))) byteswap_b1 skipS)
  skipS)
noncomputable def byteswap_s3 : SF := (retS (callE bytO (consEs (varE 2) nilEs)))
noncomputable def byteswap_F : SF := (seqS byteswap_s1
  (seqS (forS false 65536 (nameA 3) (rngI (rngF (consEs (valE (.int 0)) (consEs (callE lenO (consEs (varE 0) nilEs)) (consEs (varE 1) nilEs))))) byteswap_b2 skipS)
  (seqS byteswap_s3
  skipS)))
theorem byteswap_sim (hG : Facts g) : SimSsC prog w g 0 (namesOf byteswap_st) byteswap_nm (bodyOf byteswap_st) byteswap_F := by
  exact (simssC_cons (simsC_assignT 2 (by kernel_rfl) (by kernel_rfl) hG.gl_bytearray (sims_cons (sim_callB (by kernel_rfl) (by kernel_rfl) hG.gl_len (sims_cons (sim_var 0 rfl (by kernel_rfl)) sims_nil fun _ => rfl) ⟨⟨_, _, rfl, fun _ => rfl⟩, fun _ _ => rfl⟩ prim_len) sims_nil fun _ => rfl) ⟨⟨_, _, rfl, fun _ => rfl⟩, fun _ _ => rfl⟩ prim_ba rfl (by kernel_rfl) byteswap_nd (fun _ => rfl))
  (SimSs.toC (simss_cons (sims_for (xs := [Str.ofString "i"]) 65536 (sima_name 3 rfl (by kernel_rfl) byteswap_nd (List.Mem.head _)) (simi_range (simr_range (by kernel_rfl) (by kernel_rfl) hG.gl_range (sims_cons sim_int (sims_cons (sim_callB (by kernel_rfl) (by kernel_rfl) hG.gl_len (sims_cons (sim_var 0 rfl (by kernel_rfl)) sims_nil fun _ => rfl) ⟨⟨_, _, rfl, fun _ => rfl⟩, fun _ _ => rfl⟩ prim_len) (sims_cons (sim_var 1 rfl (by kernel_rfl)) sims_nil fun _ => rfl) fun _ => rfl) fun _ => rfl) ⟨⟨_, _, rfl, fun _ => rfl⟩, fun _ _ => rfl⟩)) (simss_cons (sims_for (xs := [Str.ofString "j"]) 65536 (sima_name 4 rfl (by kernel_rfl) byteswap_nd (List.Mem.head _)) (simi_range (simr_range (by kernel_rfl) (by kernel_rfl) hG.gl_range (sims_cons (sim_var 1 rfl (by kernel_rfl)) sims_nil fun _ => rfl) ⟨⟨_, _, rfl, fun _ => rfl⟩, fun _ _ => rfl⟩)) (simss_cons (sims_put (sim_sub_get (sim_var 0 rfl (by kernel_rfl)) (sim_bin (sim_var 3 rfl (by kernel_rfl)) (sim_var 4 rfl (by kernel_rfl)) prim_add) fun _ _ => rfl) (sim_var 2 rfl (by kernel_rfl)) (sim_bin (sim_bin (sim_bin (sim_var 3 rfl (by kernel_rfl)) (sim_var 1 rfl (by kernel_rfl)) prim_add) sim_int prim_sub) (sim_var 4 rfl (by kernel_rfl)) prim_sub) prim_set fun _ => rfl)
  simss_nil) simss_nil rfl fun _ _ => rfl)
  simss_nil) simss_nil rfl fun _ _ => rfl)
  (simss_cons (sims_ret (sim_callT (by kernel_rfl) (by kernel_rfl) hG.gl_bytes (sims_cons (sim_var 2 rfl (by kernel_rfl)) sims_nil fun _ => rfl) ⟨⟨_, _, rfl, fun _ => rfl⟩, fun _ _ => rfl⟩ prim_bytes))
  simss_nil))))
noncomputable def op_byteswap_2 : CF := plainF 2 3 byteswap_F
theorem call_byteswap_2 (hG : Facts g) : PrimCC prog w g 1 (.ref 21) op_byteswap_2 :=
  prim_fnC (locs := [Str.ofString "swapped_data", Str.ofString "i", Str.ofString "j"]) 2 (hG.fn_byteswap).choose_spec.1 (byteswap_sim hG) rfl byteswap_nd 3 rfl (hG.fn_byteswap).choose_spec.2
noncomputable def op_byteswap_f : CF := frameG op_byteswap_2
theorem call_byteswap_f (hG : Facts g) : PrimCC prog w g 1 (.ref 21) op_byteswap_f := prim_frameGC fun _ hk => call_byteswap_2 (hG.keeps hk)
/-! law -/
noncomputable def law_nm : List Str := [Str.ofString "script", Str.ofString "drawn", Str.ofString "cells", Str.ofString "size", Str.ofString "chosen", Str.ofString "few", Str.ofString "lines", Str.ofString "mirror", Str.ofString "turned", Str.ofString "oval", Str.ofString "commons", Str.ofString "touching", Str.ofString "meets", Str.ofString "shared", Str.ofString "rank", Str.ofString "turn", Str.ofString "early", Str.ofString "counts"]
theorem law_nd : law_nm.Nodup := by decide +kernel
noncomputable def law_nm1 : List Str := [Str.ofString "cell"]
theorem law_nm1_nd : law_nm1.Nodup := by decide +kernel
noncomputable def law_s1 : SF := (asgS 1 (compE false 65536 [none] (seqI (cutE (varE 0) noPart (intPart (valE (.int 4))))) (nameA 0) trueT (binE modO (callE intO (consEs (varE 0) nilEs)) (binE powO (valE (.int 10)) (valE (.int 6))))))
noncomputable def law_s2 : SF := (asgS 2 (binE addO (varE 1) (cutE (lstE (consEs (valE (.int 0)) (consEs (valE (.int 4)) (consEs (valE (.int 5)) (consEs (valE (.int 1)) nilEs))))) (intPart (callE lenO (consEs (varE 1) nilEs))) noPart)))
noncomputable def law_s3 : SF := (asgA (callE op_law_chosen_f (consEs (binE getO (varE 2) (valE (.int 0))) (consEs (binE getO (varE 2) (valE (.int 1))) (consEs (binE getO (varE 2) (valE (.int 2))) nilEs)))) (tupA 2 (consA (nameA 3) (consA (nameA 4) nilA))))
noncomputable def law_s4 : SF := (asgS 5 (callE lenO (consEs (varE 4) nilEs)))
noncomputable def law_s5 : SF := (asgS 6 (callE op_law_lines_f (consEs (varE 3) (consEs (varE 4) nilEs))))
noncomputable def law_s6 : SF := (asgS 7 (callE op_byteswap_f (consEs (callE op_law_marks_f (consEs (varE 3) (consEs (cutE (varE 6) noPart (intPart (varE 5))) nilEs))) (consEs (varE 3) nilEs))))
noncomputable def law_s7 : SF := (retS (valE (.bool false)))
noncomputable def law_s8 : SF := (asgS 8 (binE modO (binE getO (varE 2) (valE (.int 3))) (varE 5)))
noncomputable def law_s9 : SF := (asgS 9 (cutE (varE 7) (intPart (binE mulO (varE 8) (varE 3))) (intPart (binE addO (binE mulO (varE 8) (varE 3)) (varE 3)))))
noncomputable def law_nm2 : List Str := [Str.ofString "line", Str.ofString "oval"]
theorem law_nm2_nd : law_nm2.Nodup := by decide +kernel
noncomputable def law_nm3 : List Str := [Str.ofString "spot", Str.ofString "oval"]
theorem law_nm3_nd : law_nm3.Nodup := by decide +kernel
noncomputable def law_s10 : SF := (asgS 10 (compE false 65536 [none, some 9] (seqI (varE 6)) (nameA 0) trueT (compE false 65536 [none, some 1] (seqI (varE 0)) (nameA 0) (cmpT eqO (binE getO (varE 1) (varE 0)) (valE (.int 1))) (varE 0))))
noncomputable def law_s11 : SF := (retS (valE (.bool false)))
noncomputable def law_nm4 : List Str := [Str.ofString "turn", Str.ofString "spots"]
theorem law_nm4_nd : law_nm4.Nodup := by decide +kernel
noncomputable def law_s12 : SF := (asgS 11 (compE true 65536 [none, none] (enumI (consEs (varE 10) nilEs)) (tupA 2 (consA (nameA 0) (consA (nameA 1) nilA))) (cmpT eqO (callE lenO (consEs (varE 1) nilEs)) (valE (.int 1))) (varE 0)))
noncomputable def law_s13 : SF := (asgS 12 (callE op_law_meets_f (consEs (varE 3) (consEs (varE 4) (consEs (varE 11) nilEs)))))
noncomputable def law_s14 : SF := (asgS 13 (lstE nilEs))
noncomputable def law_nm5 : List Str := [Str.ofString "spot", Str.ofString "lines", Str.ofString "early"]
theorem law_nm5_nd : law_nm5.Nodup := by decide +kernel
noncomputable def law_s15 : SF := (augS 13 iaddO (compE false 65536 [none, some 6, some 16] (seqI (binE getO (varE 6) (varE 15))) (nameA 0) (cmpT inO (varE 0) (binE getO (varE 1) (varE 2))) (varE 0)))
noncomputable def law_b1 : SF := (seqS law_s15
  skipS)
noncomputable def law_b2 : SF := (seqS (forS false 65536 (nameA 16) (seqI (cutE (varE 11) noPart (intPart (varE 14)))) law_b1 skipS)
  skipS)
noncomputable def law_nm6 : List Str := [Str.ofString "spot", Str.ofString "touching", Str.ofString "lines"]
theorem law_nm6_nd : law_nm6.Nodup := by decide +kernel
noncomputable def law_nm7 : List Str := [Str.ofString "turn", Str.ofString "spot", Str.ofString "lines"]
theorem law_nm7_nd : law_nm7.Nodup := by decide +kernel
noncomputable def law_s16 : SF := (asgS 17 (compE false 65536 [none, some 11, some 6] (rngI (rngF (consEs (varE 3) nilEs))) (nameA 0) trueT (callE lenO (consEs (compE false 65536 [none, some 0, some 2] (seqI (varE 1)) (nameA 0) (cmpT inO (varE 1) (binE getO (varE 2) (varE 0))) (varE 0)) nilEs))))
noncomputable def law_s17 : SF := (retS (andE (binE eqO (varE 12) (varE 13)) (binE eqO (varE 17) (callE op_law_through_f (consEs (varE 5) (consEs (varE 9) (consEs (varE 12) nilEs)))))))
noncomputable def law_F : SF := (seqS law_s1
  (seqS law_s2
  (seqS law_s3
  (seqS law_s4
  (seqS law_s5
  (seqS law_s6
  (seqS (ifS (orT (notT (valT (callE isbO (consEs (varE 7) (consEs (valE (.con (.type "bytes"))) nilEs))))) (cmpT neO (varE 7) (callE op_law_backs_f (consEs (varE 3) (consEs (varE 4) nilEs))))) (seqS law_s7
  skipS) skipS)
  (seqS law_s8
  (seqS law_s9
  (seqS law_s10
  (seqS (ifS (cmpT neO (varE 10) (callE op_law_common_f (consEs (varE 3) (consEs (varE 4) (consEs (varE 8) nilEs))))) (seqS law_s11
  skipS) skipS)
  (seqS law_s12
  (seqS law_s13
  (seqS law_s14
  (seqS (forS true 65536 (tupA 2 (consA (nameA 14) (consA (nameA 15) nilA))) (enumI (consEs (varE 11) nilEs)) law_b2 skipS)
  (seqS law_s16
  (seqS law_s17
  skipS)))))))))))))))))
theorem law_sim (hG : Facts g) : SimSsC prog w g 3 (namesOf law_st) law_nm (bodyOf law_st) law_F := by
  exact (simssC_cons (SimS.toC (sims_assignComp 1 false 65536 law_nm1 [none] [Str.ofString "cell"] (CompOK.of (by kernel_rfl)) (simi_seq (sim_slice (sim_var 0 rfl (by kernel_rfl)) simp_none (simp_some sim_int))) (sima_name 0 rfl (by kernel_rfl) law_nm1_nd (List.Mem.head _)) simifs_nil (sim_bin (sim_callT (by kernel_rfl) (by kernel_rfl) hG.gl_int (sims_cons (sim_var 0 rfl (by kernel_rfl)) sims_nil fun _ => rfl) ⟨⟨_, _, rfl, fun _ => rfl⟩, fun _ _ => rfl⟩ prim_int) (sim_bin sim_int sim_int prim_pow) prim_mod) rfl (by decide) (fun _ _ => rfl) rfl (by kernel_rfl) law_nd (fun _ eo => (swaps_of eo).trans (congrArg pure (by kernel_rfl)))))
  (simssC_cons (SimS.toC (sims_assign 2 (sim_bin (sim_var 1 rfl (by kernel_rfl)) (sim_slice (sim_list (sims_cons sim_int (sims_cons sim_int (sims_cons sim_int (sims_cons sim_int sims_nil fun _ => rfl) fun _ => rfl) fun _ => rfl) fun _ => rfl)) (simp_some (sim_callB (by kernel_rfl) (by kernel_rfl) hG.gl_len (sims_cons (sim_var 1 rfl (by kernel_rfl)) sims_nil fun _ => rfl) ⟨⟨_, _, rfl, fun _ => rfl⟩, fun _ _ => rfl⟩ prim_len)) simp_none) prim_add) rfl (by kernel_rfl) law_nd fun _ => rfl))
  (simssC_cons (SimS.toC (sims_assignTo (xs := [Str.ofString "size", Str.ofString "chosen"]) (sim_callF (by kernel_rfl) (by kernel_rfl) hG.gl_law_chosen hG.ob_law_chosen (sims_cons (sim_sub_get (sim_var 2 rfl (by kernel_rfl)) sim_int fun _ _ => rfl) (sims_cons (sim_sub_get (sim_var 2 rfl (by kernel_rfl)) sim_int fun _ _ => rfl) (sims_cons (sim_sub_get (sim_var 2 rfl (by kernel_rfl)) sim_int fun _ _ => rfl) sims_nil fun _ => rfl) fun _ => rfl) fun _ => rfl) ⟨⟨_, _, rfl, fun _ => rfl⟩, fun _ _ => rfl⟩ (call_law_chosen_f hG |>.up (by decide))) (sima_tup (simas_cons (sima_name 3 rfl (by kernel_rfl) law_nd (List.Mem.head _)) (simas_cons (sima_name 4 rfl (by kernel_rfl) law_nd (List.Mem.tail _ (List.Mem.head _))) simas_nil fun _ => rfl) fun _ => rfl) (fun _ => rfl) (fun _ => rfl)) (fun _ => rfl) (fun _ _ => rfl) fun _ => rfl))
  (simssC_cons (SimS.toC (sims_assign 5 (sim_callB (by kernel_rfl) (by kernel_rfl) hG.gl_len (sims_cons (sim_var 4 rfl (by kernel_rfl)) sims_nil fun _ => rfl) ⟨⟨_, _, rfl, fun _ => rfl⟩, fun _ _ => rfl⟩ prim_len) rfl (by kernel_rfl) law_nd fun _ => rfl))
  (simssC_cons (SimS.toC (sims_assign 6 (sim_callF (by kernel_rfl) (by kernel_rfl) hG.gl_law_lines hG.ob_law_lines (sims_cons (sim_var 3 rfl (by kernel_rfl)) (sims_cons (sim_var 4 rfl (by kernel_rfl)) sims_nil fun _ => rfl) fun _ => rfl) ⟨⟨_, _, rfl, fun _ => rfl⟩, fun _ _ => rfl⟩ (call_law_lines_f hG |>.up (by decide))) rfl (by kernel_rfl) law_nd fun _ => rfl))
  (simssC_cons (simsC_assignF 7 (by kernel_rfl) (by kernel_rfl) hG.gl_byteswap hG.ob_byteswap (sims_cons (sim_callF (by kernel_rfl) (by kernel_rfl) hG.gl_law_marks hG.ob_law_marks (sims_cons (sim_var 3 rfl (by kernel_rfl)) (sims_cons (sim_slice (sim_var 6 rfl (by kernel_rfl)) simp_none (simp_some (sim_var 5 rfl (by kernel_rfl)))) sims_nil fun _ => rfl) fun _ => rfl) ⟨⟨_, _, rfl, fun _ => rfl⟩, fun _ _ => rfl⟩ (call_law_marks_f hG |>.up (by decide))) (sims_cons (sim_var 3 rfl (by kernel_rfl)) sims_nil fun _ => rfl) fun _ => rfl) ⟨⟨_, _, rfl, fun _ => rfl⟩, fun _ _ => rfl⟩ (call_byteswap_f hG |>.up (by decide)) rfl (by kernel_rfl) law_nd (fun _ => rfl))
  (SimSs.toC (simss_cons (sims_if (simt_or (simt_not (simt_val (sim_callB (by kernel_rfl) (by kernel_rfl) hG.gl_isinstance (sims_cons (sim_var 7 rfl (by kernel_rfl)) (sims_cons (sim_glob (.type "bytes") (by kernel_rfl) (by kernel_rfl) hG.gl_bytes) sims_nil fun _ => rfl) fun _ => rfl) ⟨⟨_, _, rfl, fun _ => rfl⟩, fun _ _ => rfl⟩ prim_isb) fun _ _ => rfl)) (simt_cmp (sim_var 7 rfl (by kernel_rfl)) (sim_callF (by kernel_rfl) (by kernel_rfl) hG.gl_law_backs hG.ob_law_backs (sims_cons (sim_var 3 rfl (by kernel_rfl)) (sims_cons (sim_var 4 rfl (by kernel_rfl)) sims_nil fun _ => rfl) fun _ => rfl) ⟨⟨_, _, rfl, fun _ => rfl⟩, fun _ _ => rfl⟩ (call_law_backs_f hG |>.up (by decide))) prim_ne rfl)) (simss_cons (sims_ret sim_bool)
  simss_nil) simss_nil)
  (simss_cons (sims_assign 8 (sim_bin (sim_sub_get (sim_var 2 rfl (by kernel_rfl)) sim_int fun _ _ => rfl) (sim_var 5 rfl (by kernel_rfl)) prim_mod) rfl (by kernel_rfl) law_nd fun _ => rfl)
  (simss_cons (sims_assign 9 (sim_slice (sim_var 7 rfl (by kernel_rfl)) (simp_some (sim_bin (sim_var 8 rfl (by kernel_rfl)) (sim_var 3 rfl (by kernel_rfl)) prim_mul)) (simp_some (sim_bin (sim_bin (sim_var 8 rfl (by kernel_rfl)) (sim_var 3 rfl (by kernel_rfl)) prim_mul) (sim_var 3 rfl (by kernel_rfl)) prim_add))) rfl (by kernel_rfl) law_nd fun _ => rfl)
  (simss_cons (sims_assignComp 10 false 65536 law_nm2 [none, some 9] [Str.ofString "line"] (CompOK.of (by kernel_rfl)) (simi_seq (sim_var 6 rfl (by kernel_rfl))) (sima_name 0 rfl (by kernel_rfl) law_nm2_nd (List.Mem.head _)) simifs_nil (sim_comp false 65536 law_nm3 [none, some 1] [Str.ofString "spot"] (CompOK.of (by kernel_rfl)) (simi_seq (sim_var 0 rfl (by kernel_rfl))) (sima_name 0 rfl (by kernel_rfl) law_nm3_nd (List.Mem.head _)) (simifs_one (simt_cmp (sim_sub_get (sim_var 1 rfl (by kernel_rfl)) (sim_var 0 rfl (by kernel_rfl)) fun _ _ => rfl) sim_int prim_eq rfl)) (sim_var 0 rfl (by kernel_rfl)) rfl (by decide) (fun _ _ => rfl)) rfl (by decide) (fun _ _ => rfl) rfl (by kernel_rfl) law_nd (fun _ eo => (swaps_of eo).trans (congrArg pure (by kernel_rfl))))
  (simss_cons (sims_if (simt_cmp (sim_var 10 rfl (by kernel_rfl)) (sim_callF (by kernel_rfl) (by kernel_rfl) hG.gl_law_common hG.ob_law_common (sims_cons (sim_var 3 rfl (by kernel_rfl)) (sims_cons (sim_var 4 rfl (by kernel_rfl)) (sims_cons (sim_var 8 rfl (by kernel_rfl)) sims_nil fun _ => rfl) fun _ => rfl) fun _ => rfl) ⟨⟨_, _, rfl, fun _ => rfl⟩, fun _ _ => rfl⟩ (call_law_common_f hG |>.up (by decide))) prim_ne rfl) (simss_cons (sims_ret sim_bool)
  simss_nil) simss_nil)
  (simss_cons (sims_assignE 11 (sim_comp true 65536 law_nm4 [none, none] [Str.ofString "turn", Str.ofString "spots"] (CompOK.of (by kernel_rfl)) (simi_enum (by kernel_rfl) (by kernel_rfl) hG.gl_enumerate (sims_cons (sim_var 10 rfl (by kernel_rfl)) sims_nil fun _ => rfl) ⟨⟨_, _, rfl, fun _ => rfl⟩, fun _ _ => rfl⟩) (sima_tup (simas_cons (sima_name 0 rfl (by kernel_rfl) law_nm4_nd (List.Mem.head _)) (simas_cons (sima_name 1 rfl (by kernel_rfl) law_nm4_nd (List.Mem.tail _ (List.Mem.head _))) simas_nil fun _ => rfl) fun _ => rfl) (fun _ => rfl) (fun _ => rfl)) (simifs_one (simt_cmp (sim_callB (by kernel_rfl) (by kernel_rfl) hG.gl_len (sims_cons (sim_var 1 rfl (by kernel_rfl)) sims_nil fun _ => rfl) ⟨⟨_, _, rfl, fun _ => rfl⟩, fun _ _ => rfl⟩ prim_len) sim_int prim_eq rfl)) (sim_var 0 rfl (by kernel_rfl)) rfl (by decide) (fun _ _ => rfl)) rfl (by kernel_rfl) law_nd (fun _ eo => (swaps_of eo).trans (congrArg pure (by kernel_rfl))))
  (simss_cons (sims_assign 12 (sim_callF (by kernel_rfl) (by kernel_rfl) hG.gl_law_meets hG.ob_law_meets (sims_cons (sim_var 3 rfl (by kernel_rfl)) (sims_cons (sim_var 4 rfl (by kernel_rfl)) (sims_cons (sim_var 11 rfl (by kernel_rfl)) sims_nil fun _ => rfl) fun _ => rfl) fun _ => rfl) ⟨⟨_, _, rfl, fun _ => rfl⟩, fun _ _ => rfl⟩ (call_law_meets_f hG |>.up (by decide))) rfl (by kernel_rfl) law_nd fun _ => rfl)
  (simss_cons (sims_assign 13 (sim_list sims_nil) rfl (by kernel_rfl) law_nd fun _ => rfl)
  (simss_cons (sims_for (xs := [Str.ofString "rank", Str.ofString "turn"]) 65536 (sima_tup (simas_cons (sima_name 14 rfl (by kernel_rfl) law_nd (List.Mem.head _)) (simas_cons (sima_name 15 rfl (by kernel_rfl) law_nd (List.Mem.tail _ (List.Mem.head _))) simas_nil fun _ => rfl) fun _ => rfl) (fun _ => rfl) (fun _ => rfl)) (simi_enum (by kernel_rfl) (by kernel_rfl) hG.gl_enumerate (sims_cons (sim_var 11 rfl (by kernel_rfl)) sims_nil fun _ => rfl) ⟨⟨_, _, rfl, fun _ => rfl⟩, fun _ _ => rfl⟩) (simss_cons (sims_for (xs := [Str.ofString "early"]) 65536 (sima_name 16 rfl (by kernel_rfl) law_nd (List.Mem.head _)) (simi_seq (sim_slice (sim_var 11 rfl (by kernel_rfl)) simp_none (simp_some (sim_var 14 rfl (by kernel_rfl))))) (simss_cons (sims_aug 13 (sim_comp false 65536 law_nm5 [none, some 6, some 16] [Str.ofString "spot"] (CompOK.of (by kernel_rfl)) (simi_seq (sim_sub_get (sim_var 6 rfl (by kernel_rfl)) (sim_var 15 rfl (by kernel_rfl)) fun _ _ => rfl)) (sima_name 0 rfl (by kernel_rfl) law_nm5_nd (List.Mem.head _)) (simifs_one (simt_cmp (sim_var 0 rfl (by kernel_rfl)) (sim_sub_get (sim_var 1 rfl (by kernel_rfl)) (sim_var 2 rfl (by kernel_rfl)) fun _ _ => rfl) prim_in rfl)) (sim_var 0 rfl (by kernel_rfl)) rfl (by decide) (fun _ _ => rfl)) prim_iadd rfl (by kernel_rfl) law_nd)
  simss_nil) simss_nil rfl fun _ _ => rfl)
  simss_nil) simss_nil rfl fun _ _ => rfl)
  (simss_cons (sims_assignComp 17 false 65536 law_nm6 [none, some 11, some 6] [Str.ofString "spot"] (CompOK.of (by kernel_rfl)) (simi_range (simr_range (by kernel_rfl) (by kernel_rfl) hG.gl_range (sims_cons (sim_var 3 rfl (by kernel_rfl)) sims_nil fun _ => rfl) ⟨⟨_, _, rfl, fun _ => rfl⟩, fun _ _ => rfl⟩)) (sima_name 0 rfl (by kernel_rfl) law_nm6_nd (List.Mem.head _)) simifs_nil (sim_callB (by kernel_rfl) (by kernel_rfl) hG.gl_len (sims_cons (sim_comp false 65536 law_nm7 [none, some 0, some 2] [Str.ofString "turn"] (CompOK.of (by kernel_rfl)) (simi_seq (sim_var 1 rfl (by kernel_rfl))) (sima_name 0 rfl (by kernel_rfl) law_nm7_nd (List.Mem.head _)) (simifs_one (simt_cmp (sim_var 1 rfl (by kernel_rfl)) (sim_sub_get (sim_var 2 rfl (by kernel_rfl)) (sim_var 0 rfl (by kernel_rfl)) fun _ _ => rfl) prim_in rfl)) (sim_var 0 rfl (by kernel_rfl)) rfl (by decide) (fun _ _ => rfl)) sims_nil fun _ => rfl) ⟨⟨_, _, rfl, fun _ => rfl⟩, fun _ _ => rfl⟩ prim_len) rfl (by decide) (fun _ _ => rfl) rfl (by kernel_rfl) law_nd (fun _ eo => (swaps_of eo).trans (congrArg pure (by kernel_rfl))))
  (simss_cons (sims_ret (sim_and (sim_cmp (sim_var 12 rfl (by kernel_rfl)) (sim_var 13 rfl (by kernel_rfl)) prim_eq rfl) (sim_cmp (sim_var 17 rfl (by kernel_rfl)) (sim_callF (by kernel_rfl) (by kernel_rfl) hG.gl_law_through hG.ob_law_through (sims_cons (sim_var 5 rfl (by kernel_rfl)) (sims_cons (sim_var 9 rfl (by kernel_rfl)) (sims_cons (sim_var 12 rfl (by kernel_rfl)) sims_nil fun _ => rfl) fun _ => rfl) fun _ => rfl) ⟨⟨_, _, rfl, fun _ => rfl⟩, fun _ _ => rfl⟩ (call_law_through_f hG |>.up (by decide))) prim_eq rfl)))
  simss_nil))))))))))))))))))
noncomputable def op_law_1 : CF := plainF 1 17 law_F
theorem call_law_1 (hG : Facts g) : PrimCC prog w g 4 (.ref 105) op_law_1 :=
  prim_fnC (locs := [Str.ofString "drawn", Str.ofString "cells", Str.ofString "size", Str.ofString "chosen", Str.ofString "few", Str.ofString "lines", Str.ofString "mirror", Str.ofString "turned", Str.ofString "oval", Str.ofString "commons", Str.ofString "touching", Str.ofString "meets", Str.ofString "shared", Str.ofString "rank", Str.ofString "turn", Str.ofString "early", Str.ofString "counts"]) 1 (hG.fn_law).choose_spec.1 (law_sim hG) rfl law_nd 17 rfl (hG.fn_law).choose_spec.2
end
end Mine
end
section
set_option maxRecDepth 100000
set_option maxHeartbeats 8000000
namespace Mine
/-- a function's object, of its def -/
noncomputable def fnO (st : Stmt) (pm cd dV kV : Value) : Obj := match st with
  | .FunctionDef n ps b _ _ _ sc _ _ _ => { cls := .type "function", data := .func { docDef n ps b sc pm cd .none with defaults := dV, kwdefaults := kV } }
  | _ => default
noncomputable def heapK (P : Params) : Frag := [
  (3, { cls := Value.type "dict", data := Data.dict #[{ hash := PyData.keyHash P (Str.ofString "__name__"), key := Value.str (Str.ofString "__name__") 165, val := Value.str (Str.ofString "law_wf0025_01") 286 }, { hash := PyData.keyHash P (Str.ofString "__doc__"), key := Value.str (Str.ofString "__doc__") 166, val := Value.none }, { hash := PyData.keyHash P (Str.ofString "__package__"), key := Value.str (Str.ofString "__package__") 167, val := Value.none }, { hash := PyData.keyHash P (Str.ofString "__loader__"), key := Value.str (Str.ofString "__loader__") 168, val := Value.builtin "__main__.__loader__#opaque" }, { hash := PyData.keyHash P (Str.ofString "__spec__"), key := Value.str (Str.ofString "__spec__") 169, val := Value.none }, { hash := PyData.keyHash P (Str.ofString "__annotations__"), key := Value.str (Str.ofString "__annotations__") 170, val := Value.ref 6 }, { hash := PyData.keyHash P (Str.ofString "__builtins__"), key := Value.str (Str.ofString "__builtins__") 171, val := Value.ref 4 }, { hash := PyData.keyHash P (Str.ofString "__file__"), key := Value.str (Str.ofString "__file__") 173, val := Value.str (Str.ofString "/claim/cut.py") 172 }, { hash := PyData.keyHash P (Str.ofString "__cached__"), key := Value.str (Str.ofString "__cached__") 174, val := Value.none }, { hash := PyData.keyHash P (Str.ofString "_byteswap"), key := Value.str (Str.ofString "_byteswap") 199, val := Value.ref 21 }, { hash := PyData.keyHash P (Str.ofString "insort_right"), key := Value.str (Str.ofString "insort_right") 214, val := Value.ref 30 }, { hash := PyData.keyHash P (Str.ofString "bisect_right"), key := Value.str (Str.ofString "bisect_right") 228, val := Value.ref 39 }, { hash := PyData.keyHash P (Str.ofString "bisect_left"), key := Value.str (Str.ofString "bisect_left") 242, val := Value.ref 48 }, { hash := PyData.keyHash P (Str.ofString "COMPILER_FLAG_NAMES"), key := Value.str (Str.ofString "COMPILER_FLAG_NAMES") 275, val := Value.ref 49 }, { hash := PyData.keyHash P (Str.ofString "pretty_flags"), key := Value.str (Str.ofString "pretty_flags") 285, val := Value.ref 56 }, { hash := PyData.keyHash P (Str.ofString "_law_words"), key := Value.str (Str.ofString "_law_words") 296, val := Value.ref 63 }, { hash := PyData.keyHash P (Str.ofString "_law_chosen"), key := Value.str (Str.ofString "_law_chosen") 302, val := Value.ref 68 }, { hash := PyData.keyHash P (Str.ofString "_law_lines"), key := Value.str (Str.ofString "_law_lines") 308, val := Value.ref 73 }, { hash := PyData.keyHash P (Str.ofString "_law_marks"), key := Value.str (Str.ofString "_law_marks") 320, val := Value.ref 80 }, { hash := PyData.keyHash P (Str.ofString "_law_backs"), key := Value.str (Str.ofString "_law_backs") 326, val := Value.ref 85 }, { hash := PyData.keyHash P (Str.ofString "_law_common"), key := Value.str (Str.ofString "_law_common") 332, val := Value.ref 90 }, { hash := PyData.keyHash P (Str.ofString "_law_meets"), key := Value.str (Str.ofString "_law_meets") 338, val := Value.ref 95 }, { hash := PyData.keyHash P (Str.ofString "_law_through"), key := Value.str (Str.ofString "_law_through") 344, val := Value.ref 100 }, { hash := PyData.keyHash P (Str.ofString "law"), key := Value.str (Str.ofString "law") 350, val := Value.ref 105 }] 24 }),
  (49, { cls := Value.type "dict", data := Data.dict #[{ hash := 1, key := Value.int 1 245, val := Value.str (Str.ofString "OPTIMIZED") 246 }, { hash := 2, key := Value.int 2 247, val := Value.str (Str.ofString "NEWLOCALS") 248 }, { hash := 4, key := Value.int 4 249, val := Value.str (Str.ofString "VARARGS") 250 }, { hash := 8, key := Value.int 8 251, val := Value.str (Str.ofString "VARKEYWORDS") 252 }, { hash := 16, key := Value.int 16 253, val := Value.str (Str.ofString "NESTED") 254 }, { hash := 32, key := Value.int 32 255, val := Value.str (Str.ofString "GENERATOR") 256 }, { hash := 64, key := Value.int 64 257, val := Value.str (Str.ofString "NOFREE") 258 }, { hash := 128, key := Value.int 128 259, val := Value.str (Str.ofString "COROUTINE") 260 }, { hash := 256, key := Value.int 256 261, val := Value.str (Str.ofString "ITERABLE_COROUTINE") 262 }, { hash := 512, key := Value.int 512 263, val := Value.str (Str.ofString "ASYNC_GENERATOR") 264 }] 10 }),
  (21, fnO byteswap_st (Value.str (Str.ofString "cpy313.wave") 187) (Value.ref 20) (Value.none) (Value.none)),
  (20, { cls := Value.type "code", data := Data.fields #[Value.str (Str.ofString "_byteswap") 189, Value.str (Str.ofString "_byteswap") 190, Value.str (Str.ofString "/claim/cut.py") 191, Value.int 2 0, Value.int 2 0, Value.int 0 0, Value.int 0 0, Value.int 3 0, Value.ref 15, Value.bool true, Value.int 181 0, Value.ref 16, Value.none, Value.ref 17, Value.ref 18, Value.ref 19, Value.int 197 0, Value.int 2 0, Value.str (Str.ofString "/claim/cut.py") 198] }),
  (30, fnO insort_right_st (Value.str (Str.ofString "cpy313.bisect") 200) (Value.ref 29) (Value.ref 22) (Value.ref 23)),
  (29, { cls := Value.type "code", data := Data.fields #[Value.str (Str.ofString "insort_right") 204, Value.str (Str.ofString "insort_right") 205, Value.str (Str.ofString "/claim/cut.py") 206, Value.int 9 0, Value.int 4 0, Value.int 0 0, Value.int 1 0, Value.int 3 0, Value.ref 24, Value.bool true, Value.int 181 0, Value.ref 25, Value.none, Value.ref 26, Value.ref 27, Value.ref 28, Value.int 212 0, Value.int 9 0, Value.str (Str.ofString "/claim/cut.py") 213] }),
  (22, { cls := Value.type "tuple", data := Data.seq #[Value.int 0 202, Value.none] }),
  (23, { cls := Value.type "dict", data := Data.dict #[{ hash := PyData.keyHash P (Str.ofString "key"), key := Value.str (Str.ofString "key") 203, val := Value.none }] 1 }),
  (39, fnO bisect_right_st (Value.str (Str.ofString "cpy313.bisect") 200) (Value.ref 38) (Value.ref 31) (Value.ref 32)),
  (38, { cls := Value.type "code", data := Data.fields #[Value.str (Str.ofString "bisect_right") 217, Value.str (Str.ofString "bisect_right") 218, Value.str (Str.ofString "/claim/cut.py") 219, Value.int 15 0, Value.int 4 0, Value.int 0 0, Value.int 1 0, Value.int 3 0, Value.ref 33, Value.bool true, Value.int 181 0, Value.ref 34, Value.none, Value.ref 35, Value.ref 36, Value.ref 37, Value.int 226 0, Value.int 15 0, Value.str (Str.ofString "/claim/cut.py") 227] }),
  (31, { cls := Value.type "tuple", data := Data.seq #[Value.int 0 215, Value.none] }),
  (32, { cls := Value.type "dict", data := Data.dict #[{ hash := PyData.keyHash P (Str.ofString "key"), key := Value.str (Str.ofString "key") 216, val := Value.none }] 1 }),
  (48, fnO bisect_left_st (Value.str (Str.ofString "cpy313.bisect") 200) (Value.ref 47) (Value.ref 40) (Value.ref 41)),
  (47, { cls := Value.type "code", data := Data.fields #[Value.str (Str.ofString "bisect_left") 231, Value.str (Str.ofString "bisect_left") 232, Value.str (Str.ofString "/claim/cut.py") 233, Value.int 35 0, Value.int 4 0, Value.int 0 0, Value.int 1 0, Value.int 3 0, Value.ref 42, Value.bool true, Value.int 181 0, Value.ref 43, Value.none, Value.ref 44, Value.ref 45, Value.ref 46, Value.int 240 0, Value.int 35 0, Value.str (Str.ofString "/claim/cut.py") 241] }),
  (40, { cls := Value.type "tuple", data := Data.seq #[Value.int 0 229, Value.none] }),
  (41, { cls := Value.type "dict", data := Data.dict #[{ hash := PyData.keyHash P (Str.ofString "key"), key := Value.str (Str.ofString "key") 230, val := Value.none }] 1 }),
  (56, fnO pretty_flags_st (Value.str (Str.ofString "cpy313.dis") 243) (Value.ref 55) (Value.none) (Value.none)),
  (55, { cls := Value.type "code", data := Data.fields #[Value.str (Str.ofString "pretty_flags") 276, Value.str (Str.ofString "pretty_flags") 277, Value.str (Str.ofString "/claim/cut.py") 278, Value.int 57 0, Value.int 1 0, Value.int 0 0, Value.int 0 0, Value.int 3 0, Value.ref 50, Value.bool true, Value.int 181 0, Value.ref 51, Value.none, Value.ref 52, Value.ref 53, Value.ref 54, Value.int 283 0, Value.int 57 0, Value.str (Str.ofString "/claim/cut.py") 284] }),
  (63, fnO law_words_st (Value.str (Str.ofString "law_wf0025_01") 286) (Value.ref 62) (Value.none) (Value.none)),
  (62, { cls := Value.type "code", data := Data.fields #[Value.str (Str.ofString "_law_words") 288, Value.str (Str.ofString "_law_words") 289, Value.str (Str.ofString "/claim/cut.py") 290, Value.int 70 0, Value.int 1 0, Value.int 0 0, Value.int 0 0, Value.int 3 0, Value.ref 57, Value.bool true, Value.int 181 0, Value.ref 58, Value.none, Value.ref 59, Value.ref 60, Value.ref 61, Value.int 294 0, Value.int 70 0, Value.str (Str.ofString "/claim/cut.py") 295] }),
  (68, fnO law_chosen_st (Value.str (Str.ofString "law_wf0025_01") 286) (Value.ref 67) (Value.none) (Value.none)),
  (67, { cls := Value.type "code", data := Data.fields #[Value.str (Str.ofString "_law_chosen") 297, Value.str (Str.ofString "_law_chosen") 298, Value.str (Str.ofString "/claim/cut.py") 299, Value.int 76 0, Value.int 3 0, Value.int 0 0, Value.int 0 0, Value.int 3 0, Value.ref 64, Value.bool true, Value.int 181 0, Value.ref 65, Value.none, Value.none, Value.none, Value.ref 66, Value.int 300 0, Value.int 76 0, Value.str (Str.ofString "/claim/cut.py") 301] }),
  (73, fnO law_lines_st (Value.str (Str.ofString "law_wf0025_01") 286) (Value.ref 72) (Value.none) (Value.none)),
  (72, { cls := Value.type "code", data := Data.fields #[Value.str (Str.ofString "_law_lines") 303, Value.str (Str.ofString "_law_lines") 304, Value.str (Str.ofString "/claim/cut.py") 305, Value.int 82 0, Value.int 2 0, Value.int 0 0, Value.int 0 0, Value.int 3 0, Value.ref 69, Value.bool true, Value.int 181 0, Value.ref 70, Value.none, Value.none, Value.none, Value.ref 71, Value.int 306 0, Value.int 82 0, Value.str (Str.ofString "/claim/cut.py") 307] }),
  (80, fnO law_marks_st (Value.str (Str.ofString "law_wf0025_01") 286) (Value.ref 79) (Value.none) (Value.none)),
  (79, { cls := Value.type "code", data := Data.fields #[Value.str (Str.ofString "_law_marks") 309, Value.str (Str.ofString "_law_marks") 310, Value.str (Str.ofString "/claim/cut.py") 311, Value.int 88 0, Value.int 2 0, Value.int 0 0, Value.int 0 0, Value.int 3 0, Value.ref 74, Value.bool true, Value.int 181 0, Value.ref 75, Value.none, Value.ref 76, Value.ref 77, Value.ref 78, Value.int 318 0, Value.int 88 0, Value.str (Str.ofString "/claim/cut.py") 319] }),
  (85, fnO law_backs_st (Value.str (Str.ofString "law_wf0025_01") 286) (Value.ref 84) (Value.none) (Value.none)),
  (84, { cls := Value.type "code", data := Data.fields #[Value.str (Str.ofString "_law_backs") 321, Value.str (Str.ofString "_law_backs") 322, Value.str (Str.ofString "/claim/cut.py") 323, Value.int 96 0, Value.int 2 0, Value.int 0 0, Value.int 0 0, Value.int 3 0, Value.ref 81, Value.bool true, Value.int 181 0, Value.ref 82, Value.none, Value.none, Value.none, Value.ref 83, Value.int 324 0, Value.int 96 0, Value.str (Str.ofString "/claim/cut.py") 325] }),
  (90, fnO law_common_st (Value.str (Str.ofString "law_wf0025_01") 286) (Value.ref 89) (Value.none) (Value.none)),
  (89, { cls := Value.type "code", data := Data.fields #[Value.str (Str.ofString "_law_common") 327, Value.str (Str.ofString "_law_common") 328, Value.str (Str.ofString "/claim/cut.py") 329, Value.int 102 0, Value.int 3 0, Value.int 0 0, Value.int 0 0, Value.int 3 0, Value.ref 86, Value.bool true, Value.int 181 0, Value.ref 87, Value.none, Value.none, Value.none, Value.ref 88, Value.int 330 0, Value.int 102 0, Value.str (Str.ofString "/claim/cut.py") 331] }),
  (95, fnO law_meets_st (Value.str (Str.ofString "law_wf0025_01") 286) (Value.ref 94) (Value.none) (Value.none)),
  (94, { cls := Value.type "code", data := Data.fields #[Value.str (Str.ofString "_law_meets") 333, Value.str (Str.ofString "_law_meets") 334, Value.str (Str.ofString "/claim/cut.py") 335, Value.int 109 0, Value.int 3 0, Value.int 0 0, Value.int 0 0, Value.int 3 0, Value.ref 91, Value.bool true, Value.int 181 0, Value.ref 92, Value.none, Value.none, Value.none, Value.ref 93, Value.int 336 0, Value.int 109 0, Value.str (Str.ofString "/claim/cut.py") 337] }),
  (100, fnO law_through_st (Value.str (Str.ofString "law_wf0025_01") 286) (Value.ref 99) (Value.none) (Value.none)),
  (99, { cls := Value.type "code", data := Data.fields #[Value.str (Str.ofString "_law_through") 339, Value.str (Str.ofString "_law_through") 340, Value.str (Str.ofString "/claim/cut.py") 341, Value.int 123 0, Value.int 3 0, Value.int 0 0, Value.int 0 0, Value.int 3 0, Value.ref 96, Value.bool true, Value.int 181 0, Value.ref 97, Value.none, Value.none, Value.none, Value.ref 98, Value.int 342 0, Value.int 123 0, Value.str (Str.ofString "/claim/cut.py") 343] }),
  (105, fnO law_st (Value.str (Str.ofString "law_wf0025_01") 286) (Value.ref 104) (Value.none) (Value.none)),
  (104, { cls := Value.type "code", data := Data.fields #[Value.str (Str.ofString "law") 345, Value.str (Str.ofString "law") 346, Value.str (Str.ofString "/claim/cut.py") 347, Value.int 127 0, Value.int 1 0, Value.int 0 0, Value.int 0 0, Value.int 3 0, Value.ref 101, Value.bool true, Value.int 181 0, Value.ref 102, Value.none, Value.none, Value.none, Value.ref 103, Value.int 348 0, Value.int 127 0, Value.str (Str.ofString "/claim/cut.py") 349] })]
noncomputable def heapA : List Addr := [3, 49, 21, 20, 30, 29, 22, 23, 39, 38, 31, 32, 48, 47, 40, 41, 56, 55, 63, 62, 68, 67, 73, 72, 80, 79, 85, 84, 90, 89, 95, 94, 100, 99, 105, 104]
theorem heapA_eq (P : Params) : heapA = (heapK P).map (·.1) := rfl
noncomputable def vw : Program := view PySem.Challenge.pw_wf0025_01 [1, 7, 8, 10, 11, 12, 13, 14, 15, 16, 17, 18]
noncomputable def loosN : List Str := [Str.ofString "insort_right", Str.ofString "bisect_right", Str.ofString "bisect_left", Str.ofString "COMPILER_FLAG_NAMES"]
theorem hl : LeftO PySem.Challenge.rw_wf0025_01.row.toRowW.prog vw loosN (fun s => xlAt vw [] s && recOk (RowW.records PySem.Challenge.rw_wf0025_01.row.toRowW) s) (Hook.obs (kHook heapK heapA heapA_eq)) (Hook.val (kHook heapK heapA heapA_eq)) 1346 :=
  LeftO.of_split "special-get-raises" (fun w => by kernel_rfl)
theorem hd_law {d : DefRec} {kwd : List (Str × Expr)} (hdef : defOf vw (Str.ofString "law") = some (d, kwd)) (hp : PySem.Challenge.pw_wf0025_01.theDef (Str.ofString "law") = some (d.params, d.body, d.scope)) (hk : kwWritten? d.params.kwonlyargs d.params.kw_defaults = some kwd)
    (walk : WalkC vw loosN (XL vw []) (Hook.says (kHook heapK heapA heapA_eq)) PySem.Challenge.rw_wf0025_01.row.toRowW d kwd) : PySem.Challenge.rw_wf0025_01.Holds := by
  refine holds_law (by kernel_rfl) fun said => ?_
  refine holds_clean (r := PySem.Challenge.rw_wf0025_01.row) (q := vw) (loose := loosN) (Xt := fun s => xlAt vw [] s && recOk (RowW.records PySem.Challenge.rw_wf0025_01.row.toRowW) s) (XP := XL vw []) (Yf := Hook.obs (kHook heapK heapA heapA_eq)) (Ya := Hook.val (kHook heapK heapA heapA_eq)) (YP := Hook.says (kHook heapK heapA heapA_eq)) (N := 1346) hl (Hook.of _) (Hook.keeps _) (fun s e => xl_of s (Bool.and_eq_true_iff.mp e).1) XL.keeps hdef hp hk (fun s e => recFacts_of (Bool.and_eq_true_iff.mp e).2) (by rfl) said (by decide +kernel) ⟨rfl, rfl, rfl, rfl, rfl, by decide +kernel⟩ ?hw walk
  case hw => w_witness2
end Mine
end
section
set_option maxRecDepth 100000
set_option maxHeartbeats 4000000
namespace Mine
theorem ns_read {h : Heap} {a : Addr} {m : Str → Option Value} {o : Obj} {es : Array DictEntry} {ep : Nat} (N : h.Ns a m) (ho : h.get? a = some o) (hd : o.data = .dict es ep) (x : Str) : m x = nsFind es x := by
  obtain ⟨o', es', ep', e1, e2, _, e3⟩ := N
  rw [ho] at e1; cases e1
  rw [hd] at e2; cases e2
  exact (e3 x).symm
theorem glob_own {h : Heap} {mg mb : Str → Option Value} {o : Obj} {es : Array DictEntry} {ep : Nat} {x : Str} {v : Value} (N : h.Ns mainGlobals mg) (B : h.Ns builtinsNs mb) (ho : h.get? mainGlobals = some o) (hd : o.data = .dict es ep)
    (hx : nsFind es x = some v) : GlobIs h x v := ⟨mg, mb, N, B, .inl ((ns_read N ho hd x).trans hx)⟩
theorem glob_blt {h : Heap} {mg mb : Str → Option Value} {o : Obj} {es : Array DictEntry} {ep : Nat} {x : Str} {v : Value} (N : h.Ns mainGlobals mg) (B : h.Ns builtinsNs mb) (ho : h.get? mainGlobals = some o) (hd : o.data = .dict es ep)
    (hx : nsFind es x = none) (hb : mb x = some v) : GlobIs h x v := ⟨mg, mb, N, B, .inr ⟨(ns_read N ho hd x).trans hx, hb⟩⟩
theorem two_of {α : Type} {vs : List α} (h : vs.length = 2) : ∃ a b, vs = [a, b] := by
  match vs, h with
  | [a, b], _ => exact ⟨a, b, rfl⟩
theorem four_of {α : Type} {vs : List α} (h : vs.length = 4) : ∃ a b c d, vs = [a, b, c, d] := by
  match vs, h with
  | [a, b, c, d], _ => exact ⟨a, b, c, d, rfl⟩
theorem factTab {w : World} {h : Heap} (X : (heapK w.params).In h) : ∀ (prog : Program) (w : World), IntTab prog w h tabA (tabT.map fun p => (PyData.int p.1, PyData.str p.2)) := by
  intro prog w'
  have ho := X 49 _ rfl
  have hes : entriesAreInt [{ hash := 1, key := Value.int 1 245, val := Value.str (Str.ofString "OPTIMIZED") 246 }, { hash := 2, key := Value.int 2 247, val := Value.str (Str.ofString "NEWLOCALS") 248 }, { hash := 4, key := Value.int 4 249, val := Value.str (Str.ofString "VARARGS") 250 }, { hash := 8, key := Value.int 8 251, val := Value.str (Str.ofString "VARKEYWORDS") 252 }, { hash := 16, key := Value.int 16 253, val := Value.str (Str.ofString "NESTED") 254 }, { hash := 32, key := Value.int 32 255, val := Value.str (Str.ofString "GENERATOR") 256 }, { hash := 64, key := Value.int 64 257, val := Value.str (Str.ofString "NOFREE") 258 }, { hash := 128, key := Value.int 128 259, val := Value.str (Str.ofString "COROUTINE") 260 }, { hash := 256, key := Value.int 256 261, val := Value.str (Str.ofString "ITERABLE_COROUTINE") 262 }, { hash := 512, key := Value.int 512 263, val := Value.str (Str.ofString "ASYNC_GENERATOR") 264 }] (tabT.map fun p => (PyData.int p.1, PyData.str p.2)) = true := by kernel_rfl
  obtain ⟨kvs, p, f, ks⟩ := entries_spec (prog := prog) (w := w') hes
  exact ⟨by kernel_rfl, kvs, ⟨_, _, _, ho, ⟨rfl, rfl, rfl⟩, rfl, fun e he => ks e (by simpa using he), p, nodup_of_apart f (by kernel_rfl)⟩, f⟩
theorem factFn_byteswap {w : World} {q : Program} {loose : List Str} {mean} {h : Heap} {mg mb : Str → Option Value} (T : Top q loose mean mg mb h) (X : (heapK w.params).In h) : ∃ fd, FnOK h 21 fd (bodyOf byteswap_st) (namesOf byteswap_st) byteswap_ps ∧ (∀ vs : List Value, vs.length = 2 → bindArgs fd ⟨vs, []⟩ = pure (byteswap_ps.zip vs)) := by
  have ho := X 21 _ rfl
  refine ⟨_, ⟨⟨_, ho, rfl⟩, T.nolimit, codeRec_of X (by kernel_rfl), (by kernel_rfl), (by kernel_rfl), rfl, rfl, rfl, rfl, rfl, rfl, by decide +kernel⟩, fun vs hl => ?_⟩
  match vs, hl with
  | [a, b], _ => rfl
theorem factFn_insort_right {w : World} {q : Program} {loose : List Str} {mean} {h : Heap} {mg mb : Str → Option Value} (T : Top q loose mean mg mb h) (X : (heapK w.params).In h) : ∃ fd, FnOK h 30 fd (bodyOf insort_right_st) (namesOf insort_right_st) insort_right_ps ∧ (∀ (s : Shared) (vs : List Value), (∀ b o, h.get? b = some o → s.heap.get? b = some o) → vs.length = 4 → ∃ ws, BindsTo s fd ⟨vs, []⟩ (insort_right_ps.zip (vs ++ ws)) ∧ Plain2 [.con .none] ws) ∧ (∀ (s : Shared) (vs : List Value) (v : Value), (∀ b o, h.get? b = some o → s.heap.get? b = some o) → vs.length = 4 → BindsTo s fd ⟨vs, [(Str.ofString "key", v)]⟩ (insort_right_ps.zip (vs ++ [v]))) ∧ (∀ (s : Shared) (vs : List Value), (∀ b o, h.get? b = some o → s.heap.get? b = some o) → vs.length = 2 → ∃ ws, BindsTo s fd ⟨vs, []⟩ (insort_right_ps.zip (vs ++ ws)) ∧ Plain2 [.int 0, .con .none, .con .none] ws) ∧ (∀ (s : Shared) (vs : List Value) (v : Value), (∀ b o, h.get? b = some o → s.heap.get? b = some o) → vs.length = 2 → ∃ ws, BindsTo s fd ⟨vs, [(Str.ofString "key", v)]⟩ (insort_right_ps.zip (vs ++ (ws ++ [v]))) ∧ Plain2 [.int 0, .con .none] ws) := by
  have ho := X 30 _ rfl
  have keep : ∀ s : Shared, (∀ b o, h.get? b = some o → s.heap.get? b = some o) → (heapK w.params).In s.heap := fun s hk a o e => hk _ _ (X a o e)
  refine ⟨_, ⟨⟨_, ho, rfl⟩, T.nolimit, codeRec_of X (by kernel_rfl), (by kernel_rfl), (by kernel_rfl), rfl, rfl, rfl, rfl, rfl, rfl, by decide +kernel⟩, fun s vs hk hl => ?_, fun s vs v hk hl => ?_, fun s vs hk hl => ?_, fun s vs v hk hl => ?_⟩
  · obtain ⟨a, b, c, d, rfl⟩ := four_of hl
    exact ⟨[.none], kp_binds (keep s hk) (fun S => by kernel_rfl), plain_n⟩
  · obtain ⟨a, b, c, d, rfl⟩ := four_of hl
    exact kp_binds (keep s hk) (fun S => by kernel_rfl)
  · obtain ⟨a, b, rfl⟩ := two_of hl
    exact ⟨[.int 0 202, .none, .none], kp_binds (keep s hk) (fun S => by kernel_rfl), plain_0nnn _⟩
  · obtain ⟨a, b, rfl⟩ := two_of hl
    exact ⟨[.int 0 202, .none], kp_binds (keep s hk) (fun S => by kernel_rfl), plain_0nn _⟩
theorem factFn_bisect_right {w : World} {q : Program} {loose : List Str} {mean} {h : Heap} {mg mb : Str → Option Value} (T : Top q loose mean mg mb h) (X : (heapK w.params).In h) : ∃ fd, FnOK h 39 fd (bodyOf bisect_right_st) (namesOf bisect_right_st) bisect_right_ps ∧ (∀ (s : Shared) (vs : List Value), (∀ b o, h.get? b = some o → s.heap.get? b = some o) → vs.length = 4 → ∃ ws, BindsTo s fd ⟨vs, []⟩ (bisect_right_ps.zip (vs ++ ws)) ∧ Plain2 [.con .none] ws) ∧ (∀ (s : Shared) (vs : List Value) (v : Value), (∀ b o, h.get? b = some o → s.heap.get? b = some o) → vs.length = 4 → BindsTo s fd ⟨vs, [(Str.ofString "key", v)]⟩ (bisect_right_ps.zip (vs ++ [v]))) ∧ (∀ (s : Shared) (vs : List Value), (∀ b o, h.get? b = some o → s.heap.get? b = some o) → vs.length = 2 → ∃ ws, BindsTo s fd ⟨vs, []⟩ (bisect_right_ps.zip (vs ++ ws)) ∧ Plain2 [.int 0, .con .none, .con .none] ws) ∧ (∀ (s : Shared) (vs : List Value) (v : Value), (∀ b o, h.get? b = some o → s.heap.get? b = some o) → vs.length = 2 → ∃ ws, BindsTo s fd ⟨vs, [(Str.ofString "key", v)]⟩ (bisect_right_ps.zip (vs ++ (ws ++ [v]))) ∧ Plain2 [.int 0, .con .none] ws) := by
  have ho := X 39 _ rfl
  have keep : ∀ s : Shared, (∀ b o, h.get? b = some o → s.heap.get? b = some o) → (heapK w.params).In s.heap := fun s hk a o e => hk _ _ (X a o e)
  refine ⟨_, ⟨⟨_, ho, rfl⟩, T.nolimit, codeRec_of X (by kernel_rfl), (by kernel_rfl), (by kernel_rfl), rfl, rfl, rfl, rfl, rfl, rfl, by decide +kernel⟩, fun s vs hk hl => ?_, fun s vs v hk hl => ?_, fun s vs hk hl => ?_, fun s vs v hk hl => ?_⟩
  · obtain ⟨a, b, c, d, rfl⟩ := four_of hl
    exact ⟨[.none], kp_binds (keep s hk) (fun S => by kernel_rfl), plain_n⟩
  · obtain ⟨a, b, c, d, rfl⟩ := four_of hl
    exact kp_binds (keep s hk) (fun S => by kernel_rfl)
  · obtain ⟨a, b, rfl⟩ := two_of hl
    exact ⟨[.int 0 215, .none, .none], kp_binds (keep s hk) (fun S => by kernel_rfl), plain_0nnn _⟩
  · obtain ⟨a, b, rfl⟩ := two_of hl
    exact ⟨[.int 0 215, .none], kp_binds (keep s hk) (fun S => by kernel_rfl), plain_0nn _⟩
theorem factFn_bisect_left {w : World} {q : Program} {loose : List Str} {mean} {h : Heap} {mg mb : Str → Option Value} (T : Top q loose mean mg mb h) (X : (heapK w.params).In h) : ∃ fd, FnOK h 48 fd (bodyOf bisect_left_st) (namesOf bisect_left_st) bisect_left_ps ∧ (∀ (s : Shared) (vs : List Value), (∀ b o, h.get? b = some o → s.heap.get? b = some o) → vs.length = 4 → ∃ ws, BindsTo s fd ⟨vs, []⟩ (bisect_left_ps.zip (vs ++ ws)) ∧ Plain2 [.con .none] ws) ∧ (∀ (s : Shared) (vs : List Value) (v : Value), (∀ b o, h.get? b = some o → s.heap.get? b = some o) → vs.length = 4 → BindsTo s fd ⟨vs, [(Str.ofString "key", v)]⟩ (bisect_left_ps.zip (vs ++ [v]))) ∧ (∀ (s : Shared) (vs : List Value), (∀ b o, h.get? b = some o → s.heap.get? b = some o) → vs.length = 2 → ∃ ws, BindsTo s fd ⟨vs, []⟩ (bisect_left_ps.zip (vs ++ ws)) ∧ Plain2 [.int 0, .con .none, .con .none] ws) ∧ (∀ (s : Shared) (vs : List Value) (v : Value), (∀ b o, h.get? b = some o → s.heap.get? b = some o) → vs.length = 2 → ∃ ws, BindsTo s fd ⟨vs, [(Str.ofString "key", v)]⟩ (bisect_left_ps.zip (vs ++ (ws ++ [v]))) ∧ Plain2 [.int 0, .con .none] ws) := by
  have ho := X 48 _ rfl
  have keep : ∀ s : Shared, (∀ b o, h.get? b = some o → s.heap.get? b = some o) → (heapK w.params).In s.heap := fun s hk a o e => hk _ _ (X a o e)
  refine ⟨_, ⟨⟨_, ho, rfl⟩, T.nolimit, codeRec_of X (by kernel_rfl), (by kernel_rfl), (by kernel_rfl), rfl, rfl, rfl, rfl, rfl, rfl, by decide +kernel⟩, fun s vs hk hl => ?_, fun s vs v hk hl => ?_, fun s vs hk hl => ?_, fun s vs v hk hl => ?_⟩
  · obtain ⟨a, b, c, d, rfl⟩ := four_of hl
    exact ⟨[.none], kp_binds (keep s hk) (fun S => by kernel_rfl), plain_n⟩
  · obtain ⟨a, b, c, d, rfl⟩ := four_of hl
    exact kp_binds (keep s hk) (fun S => by kernel_rfl)
  · obtain ⟨a, b, rfl⟩ := two_of hl
    exact ⟨[.int 0 229, .none, .none], kp_binds (keep s hk) (fun S => by kernel_rfl), plain_0nnn _⟩
  · obtain ⟨a, b, rfl⟩ := two_of hl
    exact ⟨[.int 0 229, .none], kp_binds (keep s hk) (fun S => by kernel_rfl), plain_0nn _⟩
theorem factFn_pretty_flags {w : World} {q : Program} {loose : List Str} {mean} {h : Heap} {mg mb : Str → Option Value} (T : Top q loose mean mg mb h) (X : (heapK w.params).In h) : ∃ fd, FnOK h 56 fd (bodyOf pretty_flags_st) (namesOf pretty_flags_st) pretty_flags_ps ∧ (∀ vs : List Value, vs.length = 1 → bindArgs fd ⟨vs, []⟩ = pure (pretty_flags_ps.zip vs)) := by
  have ho := X 56 _ rfl
  refine ⟨_, ⟨⟨_, ho, rfl⟩, T.nolimit, codeRec_of X (by kernel_rfl), (by kernel_rfl), (by kernel_rfl), rfl, rfl, rfl, rfl, rfl, rfl, by decide +kernel⟩, fun vs hl => ?_⟩
  match vs, hl with
  | [a], _ => rfl
theorem factFn_law_words {w : World} {q : Program} {loose : List Str} {mean} {h : Heap} {mg mb : Str → Option Value} (T : Top q loose mean mg mb h) (X : (heapK w.params).In h) : ∃ fd, FnOK h 63 fd (bodyOf law_words_st) (namesOf law_words_st) law_words_ps ∧ (∀ vs : List Value, vs.length = 1 → bindArgs fd ⟨vs, []⟩ = pure (law_words_ps.zip vs)) := by
  have ho := X 63 _ rfl
  refine ⟨_, ⟨⟨_, ho, rfl⟩, T.nolimit, codeRec_of X (by kernel_rfl), (by kernel_rfl), (by kernel_rfl), rfl, rfl, rfl, rfl, rfl, rfl, by decide +kernel⟩, fun vs hl => ?_⟩
  match vs, hl with
  | [a], _ => rfl
theorem factFn_law_chosen {w : World} {q : Program} {loose : List Str} {mean} {h : Heap} {mg mb : Str → Option Value} (T : Top q loose mean mg mb h) (X : (heapK w.params).In h) : ∃ fd, FnOK h 68 fd (bodyOf law_chosen_st) (namesOf law_chosen_st) law_chosen_ps ∧ (∀ vs : List Value, vs.length = 3 → bindArgs fd ⟨vs, []⟩ = pure (law_chosen_ps.zip vs)) := by
  have ho := X 68 _ rfl
  refine ⟨_, ⟨⟨_, ho, rfl⟩, T.nolimit, codeRec_of X (by kernel_rfl), (by kernel_rfl), (by kernel_rfl), rfl, rfl, rfl, rfl, rfl, rfl, by decide +kernel⟩, fun vs hl => ?_⟩
  match vs, hl with
  | [a, b, c], _ => rfl
theorem factFn_law_lines {w : World} {q : Program} {loose : List Str} {mean} {h : Heap} {mg mb : Str → Option Value} (T : Top q loose mean mg mb h) (X : (heapK w.params).In h) : ∃ fd, FnOK h 73 fd (bodyOf law_lines_st) (namesOf law_lines_st) law_lines_ps ∧ (∀ vs : List Value, vs.length = 2 → bindArgs fd ⟨vs, []⟩ = pure (law_lines_ps.zip vs)) := by
  have ho := X 73 _ rfl
  refine ⟨_, ⟨⟨_, ho, rfl⟩, T.nolimit, codeRec_of X (by kernel_rfl), (by kernel_rfl), (by kernel_rfl), rfl, rfl, rfl, rfl, rfl, rfl, by decide +kernel⟩, fun vs hl => ?_⟩
  match vs, hl with
  | [a, b], _ => rfl
theorem factFn_law_marks {w : World} {q : Program} {loose : List Str} {mean} {h : Heap} {mg mb : Str → Option Value} (T : Top q loose mean mg mb h) (X : (heapK w.params).In h) : ∃ fd, FnOK h 80 fd (bodyOf law_marks_st) (namesOf law_marks_st) law_marks_ps ∧ (∀ vs : List Value, vs.length = 2 → bindArgs fd ⟨vs, []⟩ = pure (law_marks_ps.zip vs)) := by
  have ho := X 80 _ rfl
  refine ⟨_, ⟨⟨_, ho, rfl⟩, T.nolimit, codeRec_of X (by kernel_rfl), (by kernel_rfl), (by kernel_rfl), rfl, rfl, rfl, rfl, rfl, rfl, by decide +kernel⟩, fun vs hl => ?_⟩
  match vs, hl with
  | [a, b], _ => rfl
theorem factFn_law_backs {w : World} {q : Program} {loose : List Str} {mean} {h : Heap} {mg mb : Str → Option Value} (T : Top q loose mean mg mb h) (X : (heapK w.params).In h) : ∃ fd, FnOK h 85 fd (bodyOf law_backs_st) (namesOf law_backs_st) law_backs_ps ∧ (∀ vs : List Value, vs.length = 2 → bindArgs fd ⟨vs, []⟩ = pure (law_backs_ps.zip vs)) := by
  have ho := X 85 _ rfl
  refine ⟨_, ⟨⟨_, ho, rfl⟩, T.nolimit, codeRec_of X (by kernel_rfl), (by kernel_rfl), (by kernel_rfl), rfl, rfl, rfl, rfl, rfl, rfl, by decide +kernel⟩, fun vs hl => ?_⟩
  match vs, hl with
  | [a, b], _ => rfl
theorem factFn_law_common {w : World} {q : Program} {loose : List Str} {mean} {h : Heap} {mg mb : Str → Option Value} (T : Top q loose mean mg mb h) (X : (heapK w.params).In h) : ∃ fd, FnOK h 90 fd (bodyOf law_common_st) (namesOf law_common_st) law_common_ps ∧ (∀ vs : List Value, vs.length = 3 → bindArgs fd ⟨vs, []⟩ = pure (law_common_ps.zip vs)) := by
  have ho := X 90 _ rfl
  refine ⟨_, ⟨⟨_, ho, rfl⟩, T.nolimit, codeRec_of X (by kernel_rfl), (by kernel_rfl), (by kernel_rfl), rfl, rfl, rfl, rfl, rfl, rfl, by decide +kernel⟩, fun vs hl => ?_⟩
  match vs, hl with
  | [a, b, c], _ => rfl
theorem factFn_law_meets {w : World} {q : Program} {loose : List Str} {mean} {h : Heap} {mg mb : Str → Option Value} (T : Top q loose mean mg mb h) (X : (heapK w.params).In h) : ∃ fd, FnOK h 95 fd (bodyOf law_meets_st) (namesOf law_meets_st) law_meets_ps ∧ (∀ vs : List Value, vs.length = 3 → bindArgs fd ⟨vs, []⟩ = pure (law_meets_ps.zip vs)) := by
  have ho := X 95 _ rfl
  refine ⟨_, ⟨⟨_, ho, rfl⟩, T.nolimit, codeRec_of X (by kernel_rfl), (by kernel_rfl), (by kernel_rfl), rfl, rfl, rfl, rfl, rfl, rfl, by decide +kernel⟩, fun vs hl => ?_⟩
  match vs, hl with
  | [a, b, c], _ => rfl
theorem factFn_law_through {w : World} {q : Program} {loose : List Str} {mean} {h : Heap} {mg mb : Str → Option Value} (T : Top q loose mean mg mb h) (X : (heapK w.params).In h) : ∃ fd, FnOK h 100 fd (bodyOf law_through_st) (namesOf law_through_st) law_through_ps ∧ (∀ vs : List Value, vs.length = 3 → bindArgs fd ⟨vs, []⟩ = pure (law_through_ps.zip vs)) := by
  have ho := X 100 _ rfl
  refine ⟨_, ⟨⟨_, ho, rfl⟩, T.nolimit, codeRec_of X (by kernel_rfl), (by kernel_rfl), (by kernel_rfl), rfl, rfl, rfl, rfl, rfl, rfl, by decide +kernel⟩, fun vs hl => ?_⟩
  match vs, hl with
  | [a, b, c], _ => rfl
theorem factFn_law {w : World} {q : Program} {loose : List Str} {mean} {h : Heap} {mg mb : Str → Option Value} (T : Top q loose mean mg mb h) (X : (heapK w.params).In h) : ∃ fd, FnOK h 105 fd (bodyOf law_st) (namesOf law_st) law_ps ∧ (∀ vs : List Value, vs.length = 1 → bindArgs fd ⟨vs, []⟩ = pure (law_ps.zip vs)) := by
  have ho := X 105 _ rfl
  refine ⟨_, ⟨⟨_, ho, rfl⟩, T.nolimit, codeRec_of X (by kernel_rfl), (by kernel_rfl), (by kernel_rfl), rfl, rfl, rfl, rfl, rfl, rfl, by decide +kernel⟩, fun vs hl => ?_⟩
  match vs, hl with
  | [a], _ => rfl
theorem facts_of {w : World} {q : Program} {loose : List Str} {mean} {h : Heap} {mg mb : Str → Option Value} (T : Top q loose mean mg mb h) (X : (heapK w.params).In h) : Facts h where
  lim := T.nolimit
  gl_byteswap := glob_own T.g T.b (X 3 _ rfl) rfl (by kernel_rfl)
  gl_insort_right := glob_own T.g T.b (X 3 _ rfl) rfl (by kernel_rfl)
  gl_bisect_right := glob_own T.g T.b (X 3 _ rfl) rfl (by kernel_rfl)
  gl_bisect_left := glob_own T.g T.b (X 3 _ rfl) rfl (by kernel_rfl)
  gl_COMPILER_FLAG_NAMES := glob_own T.g T.b (X 3 _ rfl) rfl (by kernel_rfl)
  gl_pretty_flags := glob_own T.g T.b (X 3 _ rfl) rfl (by kernel_rfl)
  gl_law_words := glob_own T.g T.b (X 3 _ rfl) rfl (by kernel_rfl)
  gl_law_chosen := glob_own T.g T.b (X 3 _ rfl) rfl (by kernel_rfl)
  gl_law_lines := glob_own T.g T.b (X 3 _ rfl) rfl (by kernel_rfl)
  gl_law_marks := glob_own T.g T.b (X 3 _ rfl) rfl (by kernel_rfl)
  gl_law_backs := glob_own T.g T.b (X 3 _ rfl) rfl (by kernel_rfl)
  gl_law_common := glob_own T.g T.b (X 3 _ rfl) rfl (by kernel_rfl)
  gl_law_meets := glob_own T.g T.b (X 3 _ rfl) rfl (by kernel_rfl)
  gl_law_through := glob_own T.g T.b (X 3 _ rfl) rfl (by kernel_rfl)
  gl_law := glob_own T.g T.b (X 3 _ rfl) rfl (by kernel_rfl)
  gl_len := glob_blt T.g T.b (X 3 _ rfl) rfl (by kernel_rfl) ((T.builtins _ (by decide +kernel)).trans (by kernel_rfl))
  gl_sum := glob_blt T.g T.b (X 3 _ rfl) rfl (by kernel_rfl) ((T.builtins _ (by decide +kernel)).trans (by kernel_rfl))
  gl_hex := glob_blt T.g T.b (X 3 _ rfl) rfl (by kernel_rfl) ((T.builtins _ (by decide +kernel)).trans (by kernel_rfl))
  gl_isinstance := glob_blt T.g T.b (X 3 _ rfl) rfl (by kernel_rfl) ((T.builtins _ (by decide +kernel)).trans (by kernel_rfl))
  gl_sorted := glob_blt T.g T.b (X 3 _ rfl) rfl (by kernel_rfl) ((T.builtins _ (by decide +kernel)).trans (by kernel_rfl))
  gl_bytes := glob_blt T.g T.b (X 3 _ rfl) rfl (by kernel_rfl) ((T.builtins _ (by decide +kernel)).trans (by kernel_rfl))
  gl_int := glob_blt T.g T.b (X 3 _ rfl) rfl (by kernel_rfl) ((T.builtins _ (by decide +kernel)).trans (by kernel_rfl))
  gl_list := glob_blt T.g T.b (X 3 _ rfl) rfl (by kernel_rfl) ((T.builtins _ (by decide +kernel)).trans (by kernel_rfl))
  gl_range := glob_blt T.g T.b (X 3 _ rfl) rfl (by kernel_rfl) ((T.builtins _ (by decide +kernel)).trans (by kernel_rfl))
  gl_enumerate := glob_blt T.g T.b (X 3 _ rfl) rfl (by kernel_rfl) ((T.builtins _ (by decide +kernel)).trans (by kernel_rfl))
  gl_bytearray := glob_blt T.g T.b (X 3 _ rfl) rfl (by kernel_rfl) ((T.builtins _ (by decide +kernel)).trans (by kernel_rfl))
  tab := factTab X
  fn_byteswap := factFn_byteswap T X
  fn_insort_right := factFn_insort_right T X
  fn_bisect_right := factFn_bisect_right T X
  fn_bisect_left := factFn_bisect_left T X
  fn_pretty_flags := factFn_pretty_flags T X
  fn_law_words := factFn_law_words T X
  fn_law_chosen := factFn_law_chosen T X
  fn_law_lines := factFn_law_lines T X
  fn_law_marks := factFn_law_marks T X
  fn_law_backs := factFn_law_backs T X
  fn_law_common := factFn_law_common T X
  fn_law_meets := factFn_law_meets T X
  fn_law_through := factFn_law_through T X
  fn_law := factFn_law T X
theorem holds_of (P : ∀ ns : List Int, ns.length ≤ 63 → ∃ σ', op_law_1 [.blist (ns.map .int)] [] = some (.bool true, σ')) : PySem.Challenge.rw_wf0025_01.Holds := by
  refine hd_law (by rfl) (by rfl) (by rfl) ?_
  intro w s₀ s₁ mg mb G Y fa o pm cd doc dV kV ho hd hcd hD hmg hg args vals as hpre hlay hrd hwl hlo
  have KX := kIn_of Y
  have T := G.T
  clear ho hd hcd hD Y
  have efa : mg (Str.ofString "law") = some (.ref fa) := hmg
  have ela : mg (Str.ofString "law") = some (.ref 105) := (ns_read T.g (KX 3 _ rfl) rfl _).trans (by kernel_rfl)
  clear hmg
  rw [ela] at efa
  cases efa
  wrow_args hpre hlay hrd hwl hlo
  rename_i ns _ _ _ _ _ _ _ l vs _ hL _ _ _ hI _ hn _
  have hF := facts_of T KX
  have hrep : ∀ {xs : List Value} {ms : List Int}, IntsAre xs ms → Reps s₁.heap (fun _ => 0) 0 s₁.heap (ms.map .int) xs := by
    intro xs ms hx
    induction hx with
    | nil => exact .nil
    | cons => rename_i ih; exact .cons (.int _ _) ih
  have R : Rel s₁.heap (fun _ => 0) [] s₁.heap := ⟨fun id o e => by simp at e, fun i j hi => by simp at hi, fun _ _ e => e, fun id hi => by simp at hi⟩
  obtain ⟨σ', hP⟩ := P ns (by (first | lia | omega))
  refine call_law_1 hF callerA s₁ (fun _ => 0) [] [.blist (ns.map .int)] [.ref l] ⟨rfl, by decide +kernel, by decide +kernel⟩ R (.cons (.blist hL (hrep hI)) .nil) _ _ hP _ _ fun v h' tk φ' X r => ?_
  cases r
  exact ⟨.inl ⟨_, _, _, rfl, fun _ => rfl, .bool true, by wrow_post, fun _ => ⟨List.nodup_nil, fun a ha => nomatch ha⟩⟩, OldK.of_keep X.rel.base, rfl, AllBare.of_eq hg⟩
end Mine
end
section
set_option maxRecDepth 100000
namespace Mine
open PySem.StrLaws PySem.Builtin.Str
noncomputable def commaS : Str := Str.ofString ", "
theorem comma_list : commaS.cps.toList = [44, 32] := by decide +kernel
theorem comma_len : commaS.length = 2 := by decide +kernel
theorem at_iff {x : Str} {k : Nat} : At x commaS x.length k ↔ ∃ r, x.cps.toList.drop k = 44 :: 32 :: r := by
  have hlen : x.length = x.cps.toList.length := by simp [Str.length]
  unfold At
  rw [subAt_eq, comma_list, comma_len, hlen]
  constructor
  · rintro ⟨h1, h2⟩
    have h2 := eq_of_beq h2
    generalize hd : x.cps.toList.drop k = d at h2
    match d, h2 with
    | a :: b :: r, h2 =>
      simp at h2
      exact ⟨r, by rw [h2.1, h2.2]⟩
  · rintro ⟨r, hr⟩
    have : (x.cps.toList.drop k).length = r.length + 2 := by rw [hr]; rfl
    rw [List.length_drop] at this
    exact ⟨by omega, by rw [hr]; rfl⟩
theorem sub_list (x : Str) (a b : Nat) : (strSub x a b).cps.toList = (x.cps.toList.drop a).take (b - a) := strSub_toList x a b
theorem str_of_list {x y : Str} (h : x.cps.toList = y.cps.toList) : x = y := Str.ext' (Array.toList_inj.mp h)
theorem join_cons2 (y p q : Str) (r : List Str) : (Str.join y (p :: q :: r)).cps.toList = p.cps.toList ++ (y.cps.toList ++ (Str.join y (q :: r)).cps.toList) := by
  show (p ++ y ++ Str.join y (q :: r)).cps.toList = _
  simp only [Str.cps_append, Array.toList_append, List.append_assoc]
theorem parts_of_join (x : Str) : ∀ (l : List Str) (a f : Nat) (cuts : List Nat), l ≠ [] → (∀ p ∈ l, 44 ∉ p.cps.toList) → x.cps.toList.drop a = (Str.join commaS l).cps.toList →
    ChainG x commaS x.length a cuts f → (∀ k, f ≤ k → ¬ At x commaS x.length k) → partsFrom x 2 a cuts = l
  | [], _, _, _, h, _, _, _, _ => absurd rfl h
  | [p], a, f, cuts, _, hp, hx, hc, hf => by
    have hx : x.cps.toList.drop a = p.cps.toList := hx
    have hlen : x.length = x.cps.toList.length := by simp [Str.length]
    have no : ∀ k, a ≤ k → ¬ At x commaS x.length k := fun k hk h => by
      obtain ⟨r, hr⟩ := at_iff.mp h
      apply hp p (List.mem_singleton_self p)
      rw [← hx]
      have : x.cps.toList.drop k = (x.cps.toList.drop a).drop (k - a) := by rw [List.drop_drop]; congr 1; (first | lia | omega)
      rw [this] at hr
      exact List.mem_of_mem_drop (hr ▸ List.mem_cons_self ..)
    cases cuts with
    | nil =>
      show [strSub x a x.length] = [p]
      congr 1
      apply str_of_list
      rw [sub_list, List.take_of_length_le (by rw [List.length_drop]; (first | lia | omega)), hx]
    | cons c r => exact absurd hc.2.1 (no c hc.1)
  | p :: q :: l, a, f, cuts, _, hp, hx, hc, hf => by
    rw [join_cons2, comma_list] at hx
    have hat : At x commaS x.length (a + p.cps.toList.length) := by
      refine at_iff.mpr ⟨(Str.join commaS (q :: l)).cps.toList, ?_⟩
      rw [← List.drop_drop, hx, List.drop_left]
      rfl
    have no : ∀ k, a ≤ k → k < a + p.cps.toList.length → ¬ At x commaS x.length k := fun k hk hk2 h => by
      obtain ⟨r, hr⟩ := at_iff.mp h
      apply hp p (List.mem_cons_self ..)
      have e1 : x.cps.toList.drop k = (x.cps.toList.drop a).drop (k - a) := by rw [List.drop_drop]; congr 1; (first | lia | omega)
      rw [e1, hx, List.drop_append_of_le_length (by (first | lia | omega))] at hr
      have hne : p.cps.toList.drop (k - a) ≠ [] := by
        intro e
        have := congrArg List.length e
        rw [List.length_drop] at this
        simp at this
        simp at hk2
        (first | lia | omega)
      cases hd : p.cps.toList.drop (k - a) with
      | nil => exact absurd hd hne
      | cons u v =>
        rw [hd] at hr
        injection hr with hu _
        subst hu
        exact List.mem_of_mem_drop (hd ▸ List.mem_cons_self ..)
    cases cuts with
    | nil =>
      have ef : f = a := hc
      exact absurd hat (hf _ (by (first | lia | omega)))
    | cons c r =>
      have ec : c = a + p.cps.toList.length := by
        have h1 := hc.1
        rcases Nat.lt_trichotomy c (a + p.cps.toList.length) with h | h | h
        · exact absurd hc.2.1 (no c h1 h)
        · exact h
        · exact absurd hat (hc.2.2.1 _ (by (first | lia | omega)) h)
      subst ec
      show strSub x a (a + p.cps.toList.length) :: partsFrom x 2 (a + p.cps.toList.length + 2) r = p :: q :: l
      congr 1
      · apply str_of_list
        rw [sub_list, hx, Nat.add_sub_cancel_left, List.take_left]
      · refine parts_of_join x (q :: l) _ f r (by simp) (fun p' h => hp p' (List.mem_cons_of_mem _ h)) ?_ (by have := hc.2.2.2; rwa [comma_len] at this) hf
        rw [← List.drop_drop, ← List.drop_drop, hx, List.drop_left]
        rfl
theorem kind_pos (x : Str) : 1 ≤ Builtin.Str.strKind x := by
  unfold Builtin.Str.strKind
  split
  · (first | lia | omega)
  · split <;> (first | lia | omega)
theorem split_join {l : List Str} (h0 : l ≠ []) (hp : ∀ p ∈ l, 44 ∉ p.cps.toList) : Txt.split (glued commaS l) commaS = l := by
  rw [glued_eq_join]
  obtain ⟨f, hG, hn⟩ := occ_tight (Str.join commaS l) commaS (by rw [comma_len]; (first | lia | omega))
  have key := parts_of_join (Str.join commaS l) l 0 f _ h0 hp rfl hG hn
  have kc : Builtin.Str.strKind commaS = 1 := by decide +kernel
  unfold Txt.split
  split
  · rename_i hc
    have hlt : (Str.join commaS l).length < 2 := by
      rw [Bool.or_eq_true, decide_eq_true_eq, decide_eq_true_eq, kc, comma_len] at hc
      have := kind_pos (Str.join commaS l)
      (first | lia | omega)
    match l, h0 with
    | [p], _ => rfl
    | p :: q :: r, _ =>
      exfalso
      have e := congrArg List.length (join_cons2 commaS p q r)
      rw [List.length_append, List.length_append, comma_list] at e
      simp [Str.length] at hlt e
      (first | lia | omega)
  · split
    · rename_i he
      have e0 := List.isEmpty_iff.mp he
      rw [e0] at key
      refine Eq.trans ?_ key
      show [Str.join commaS l] = [strSub (Str.join commaS l) 0 (Str.join commaS l).length]
      rw [sub_whole]
    · rw [partsBetween_eq, comma_len]
      exact key
end Mine
end
section
set_option maxRecDepth 100000
namespace Mine
theorem bitAnd_nat (a b : Nat) : Builtin.bitAnd (a : Int) (b : Int) = ((a &&& b : Nat) : Int) := by
  unfold Builtin.bitAnd
  simp
theorem bitOr_nat (a b : Nat) : Builtin.bitOr (a : Int) (b : Int) = ((a ||| b : Nat) : Int) := by
  unfold Builtin.bitOr Builtin.bitAnd Builtin.bitNot
  have h1 : decide ((0 : Int) ≤ -(a : Int) - 1) = false := by simp; (first | lia | omega)
  have h2 : decide ((0 : Int) ≤ -(b : Int) - 1) = false := by simp; (first | lia | omega)
  rw [h1, h2]
  simp only
  have e1 : (-(-(a : Int) - 1) - 1).toNat = a := by (first | lia | omega)
  have e2 : (-(-(b : Int) - 1) - 1).toNat = b := by (first | lia | omega)
  rw [e1, e2]
  (first | lia | omega)
theorem and_two_pow_mul (i q : Nat) : (2 ^ i * q) &&& 2 ^ i = 2 ^ i * (q % 2) := by
  apply Nat.eq_of_testBit_eq
  intro j
  rw [Nat.testBit_and, Nat.testBit_two_pow_mul, Nat.testBit_two_pow, Nat.testBit_two_pow_mul]
  by_cases hj : i = j
  · subst hj; simp [Nat.testBit_zero]
  · by_cases h2 : i ≤ j
    · have h3 : (q % 2).testBit (j - i) = false := by
        obtain ⟨m, hm⟩ : ∃ m, j - i = m + 1 := ⟨j - i - 1, by (first | lia | omega)⟩
        rw [hm, Nat.testBit_succ]
        have : q % 2 / 2 = 0 := by (first | lia | omega)
        rw [this]; simp
      simp [hj, h3]
    · simp [hj, h2]
theorem or_two_pow_mul (i q : Nat) (h : q % 2 = 1) : (2 ^ i * q) ||| 2 ^ i = 2 ^ i * q := by
  apply Nat.eq_of_testBit_eq
  intro j
  rw [Nat.testBit_or, Nat.testBit_two_pow_mul, Nat.testBit_two_pow]
  by_cases hj : i = j
  · subst hj; simp [Nat.testBit_zero, h]
  · simp [hj]
theorem bitAnd_pow (i q : Nat) : Builtin.bitAnd ((2 ^ i * q : Nat) : Int) ((2 ^ i : Nat) : Int) = ((2 ^ i * (q % 2) : Nat) : Int) := by rw [bitAnd_nat, and_two_pow_mul]
theorem bitXor_pow (i q : Nat) (h : q % 2 = 1) : Builtin.bitXor ((2 ^ i * q : Nat) : Int) ((2 ^ i : Nat) : Int) = ((2 ^ i * (q - 1) : Nat) : Int) := by
  unfold Builtin.bitXor
  rw [bitOr_nat, bitAnd_nat, and_two_pow_mul, or_two_pow_mul _ _ h, h, Nat.mul_sub]
  have : 2 ^ i * 1 ≤ 2 ^ i * q := Nat.mul_le_mul_left _ (by omega)
  omega

noncomputable def nameOf (i : Nat) : Str := (tabGet tabT ((2 ^ i : Nat) : Int)).getD (hexS ((2 ^ i : Nat) : Int))
noncomputable def bitsFrom : Nat → Nat → Nat → List Nat
  | 0, _, _ => []
  | k + 1, i, q => if q % 2 = 1 then i :: bitsFrom k (i + 1) (q / 2) else bitsFrom k (i + 1) (q / 2)
theorem hex_short : ∀ i, i < 32 → (hexS ((2 ^ i : Nat) : Int)).length ≤ 65536 := by decide +kernel
theorem pow_cast (i : Nat) : (1 : Int) * 2 ^ i = ((2 ^ i : Nat) : Int) := by rw [Int.one_mul]; norm_cast
theorem pf_even (i q : Nat) (hi : i < 32) (hq : q % 2 = 0) (y : Option AV) (names : List AV) :
    pretty_flags_b1 [some (.int ((2 ^ i * q : Nat) : Int)), some (.ref 0), some (.int i), y] [.list names] = some (.next, [some (.int ((2 ^ i * q : Nat) : Int)), some (.ref 0), some (.int i), some (.int ((2 ^ i : Nat) : Int))], [.list names]) := by
  have h1 : (0 : Int) ≤ (i : Int) ∧ (i : Int) ≤ 1000 ∧ i64 1 = true := ⟨by (first | lia | omega), by (first | lia | omega), by decide⟩
  have e1 : shlO (.int 1) (.int (i : Int)) [.list names] = some (.int ((2 ^ i : Nat) : Int), [.list names]) := by
    unfold shlO
    dsimp only
    rw [if_pos h1, Int.toNat_natCast, pow_cast]
  have e2 : andO (.int ((2 ^ i * q : Nat) : Int)) (.int ((2 ^ i : Nat) : Int)) [.list names] = some (.int 0, [.list names]) := by
    unfold andO
    dsimp only
    rw [bitAnd_pow, hq]
    rfl
  simp only [pretty_flags_b1, pretty_flags_s2, pretty_flags_s3, pretty_flags_s4, seqS, asgS, binE, valE, varE, Fm.get, Fm.put, List.getD_cons_zero, List.getD_cons_succ, List.set_cons_succ, List.set_cons_zero, Option.map_some, Option.bind_some, e1, ifS, valT, e2, truthV, skipS]
  rfl
theorem pf_odd (i q : Nat) (hi : i < 32) (hq : q % 2 = 1) (y : Option AV) (names : List AV) (hn : names.length ≤ 65536) :
    pretty_flags_b1 [some (.int ((2 ^ i * q : Nat) : Int)), some (.ref 0), some (.int i), y] [.list names] =
      some (if q - 1 = 0 then .brk else .next, [some (.int ((2 ^ i * (q - 1) : Nat) : Int)), some (.ref 0), some (.int i), some (.int ((2 ^ i : Nat) : Int))], [.list (names ++ [.str (nameOf i)])]) := by
  have h1 : (0 : Int) ≤ (i : Int) ∧ (i : Int) ≤ 1000 ∧ i64 1 = true := ⟨by (first | lia | omega), by (first | lia | omega), by decide⟩
  have e1 : shlO (.int 1) (.int (i : Int)) [.list names] = some (.int ((2 ^ i : Nat) : Int), [.list names]) := by
    unfold shlO
    dsimp only
    rw [if_pos h1, Int.toNat_natCast, pow_cast]
  have hp : 0 < 2 ^ i := Nat.two_pow_pos i
  have e2 : andO (.int ((2 ^ i * q : Nat) : Int)) (.int ((2 ^ i : Nat) : Int)) [.list names] = some (.int ((2 ^ i : Nat) : Int), [.list names]) := by
    unfold andO
    dsimp only
    rw [bitAnd_pow, hq, Nat.mul_one]
  have e3 : ∀ σ : St, hexO [.int ((2 ^ i : Nat) : Int)] σ = some (.str (hexS ((2 ^ i : Nat) : Int)), σ) := fun σ => by
    unfold hexO
    dsimp only
    rw [if_pos (hex_short i hi)]
  have e4 : ∀ σ : St, ixorO (.int ((2 ^ i * q : Nat) : Int)) (.int ((2 ^ i : Nat) : Int)) σ = some (.int ((2 ^ i * (q - 1) : Nat) : Int), σ) := fun σ => by
    unfold ixorO
    dsimp only
    rw [bitXor_pow _ _ hq]
  have e5 : ∀ σ : St, tabO (.con (.ref 49)) [.int ((2 ^ i : Nat) : Int), .str (hexS ((2 ^ i : Nat) : Int))] σ = some (.str (nameOf i), σ) := fun σ => rfl
  have e6 : ((((2 ^ i : Nat) : Int)) != 0) = true := by
    rw [bne_iff_ne]
    generalize 2 ^ i = z at hp ⊢
    (first | lia | omega)
  have e7 : appO (.ref 0) [.str (nameOf i)] [.list names] = some (.con .none, [.list (names ++ [.str (nameOf i)])]) := by
    unfold appO
    simp [hn]
  have e8 : okL (.ref 0) [.list names] = true := rfl
  have e9 : ∀ σ : St, okD tabA (.con (.ref 49)) σ = true := fun σ => rfl
  simp only [pretty_flags_b1, pretty_flags_s2, pretty_flags_s3, pretty_flags_s4, seqS, asgS, binE, valE, varE, Fm.get, Fm.put, List.getD_cons_zero, List.getD_cons_succ, List.set_cons_succ, List.set_cons_zero, Option.map_some, Option.bind_some, e1, ifS, valT, e2, truthV, skipS, e6, if_true, exprS, methO, e8, e9, e5, e3, consEs, nilEs, callE, e7, augS, e4, notT, brkS]
  by_cases hz : q - 1 = 0
  · have : (((2 ^ i * (q - 1) : Nat) : Int) != 0) = false := by rw [hz]; rfl
    rw [this, if_pos hz]; rfl
  · have : (((2 ^ i * (q - 1) : Nat) : Int) != 0) = true := by
      have : 0 < 2 ^ i * (q - 1) := Nat.mul_pos hp (by (first | lia | omega))
      rw [bne_iff_ne]
      generalize 2 ^ i * (q - 1) = z at this ⊢
      (first | lia | omega)
    rw [this, if_neg hz]; rfl
end Mine
end
section
set_option maxRecDepth 100000
namespace Mine
/-! loops over a range, turn by turn -/
theorem for_range_zero {tf : AF} {bf ef : SF} {n : Nat} {c st : Int} {ρ : Fm} {σ : St} : forGo false tf bf ef (n + 1) (.range c st 0) ρ σ = ef ρ σ := rfl
theorem for_range_next {tf : AF} {bf ef : SF} {n k : Nat} {c st : Int} {ρ ρ1 ρ2 : Fm} {σ σ1 σ2 : St} (h1 : tf (.int c) ρ σ = some (ρ1, σ1)) (h2 : bf ρ1 σ1 = some (.next, ρ2, σ2)) :
    forGo false tf bf ef (n + 1) (.range c st (k + 1)) ρ σ = forGo false tf bf ef n (.range (c + st) st k) ρ2 σ2 := by
  show (tf (.int c) ρ σ).bind _ = _
  rw [h1, Option.bind_some, h2]
  rfl
theorem for_range_brk {tf : AF} {bf ef : SF} {n k : Nat} {c st : Int} {ρ ρ1 ρ2 : Fm} {σ σ1 σ2 : St} (h1 : tf (.int c) ρ σ = some (ρ1, σ1)) (h2 : bf ρ1 σ1 = some (.brk, ρ2, σ2)) :
    forGo false tf bf ef (n + 1) (.range c st (k + 1)) ρ σ = some (.next, ρ2, σ2) := by
  show (tf (.int c) ρ σ).bind _ = _
  rw [h1, Option.bind_some, h2]
  rfl
/-- an invariant over the turns -/
theorem for_range_inv {tf : AF} {bf ef : SF} {st : Int} (I : Nat → Fm → St → Prop) : ∀ (k j : Nat) (c : Int) (fuel : Nat) (ρ : Fm) (σ : St), k < fuel → I j ρ σ →
    (∀ i ρ σ, j ≤ i → i < j + k → I i ρ σ → ∃ ρ1 σ1 ρ2 σ2, tf (.int (c + ((i - j : Nat) : Int) * st)) ρ σ = some (ρ1, σ1) ∧ bf ρ1 σ1 = some (.next, ρ2, σ2) ∧ I (i + 1) ρ2 σ2) →
    ∃ ρ' σ', forGo false tf bf ef fuel (.range c st k) ρ σ = ef ρ' σ' ∧ I (j + k) ρ' σ'
  | 0, j, c, fuel, ρ, σ, hf, hI, _ => by
    obtain ⟨f, rfl⟩ : ∃ f, fuel = f + 1 := ⟨fuel - 1, by (first | lia | omega)⟩
    exact ⟨ρ, σ, rfl, hI⟩
  | k + 1, j, c, fuel, ρ, σ, hf, hI, step => by
    obtain ⟨f, rfl⟩ : ∃ f, fuel = f + 1 := ⟨fuel - 1, by (first | lia | omega)⟩
    obtain ⟨ρ1, σ1, ρ2, σ2, h1, h2, h3⟩ := step j ρ σ (Nat.le_refl _) (by (first | lia | omega)) hI
    rw [Nat.sub_self] at h1
    rw [for_range_next (by simpa using h1) h2]
    obtain ⟨ρ', σ', e, hI'⟩ := for_range_inv I k (j + 1) (c + st) f ρ2 σ2 (by (first | lia | omega)) h3 fun i ρ σ hi1 hi2 hi => by
      obtain ⟨a1, a2, a3, a4, b1, b2, b3⟩ := step i ρ σ (by (first | lia | omega)) (by (first | lia | omega)) hi
      refine ⟨a1, a2, a3, a4, ?_, b2, b3⟩
      have e1 : ((i - j : Nat) : Int) = ((i - (j + 1) : Nat) : Int) + 1 := by (first | lia | omega)
      have e2 : c + st + ((i - (j + 1) : Nat) : Int) * st = c + ((i - j : Nat) : Int) * st := by rw [e1, Int.add_mul, Int.one_mul]; (first | lia | omega)
      rw [e2]
      exact b1
    exact ⟨ρ', σ', e, by rwa [show j + (k + 1) = j + 1 + k by (first | lia | omega)]⟩

/-! pretty_flags -/
noncomputable def flagList (n : Nat) : List Str := if n = 0 then [hexS 0] else (bitsFrom 32 0 n).map nameOf
theorem bits_zero : ∀ k i, bitsFrom k i 0 = []
  | 0, _ => rfl
  | k + 1, i => by
    show bitsFrom k (i + 1) 0 = []
    exact bits_zero k (i + 1)
theorem hex0_short : (hexS 0).length ≤ 65536 := by decide +kernel
theorem pf_end (x y : Option AV) (names : List AV) (hn : names.length ≤ 65536) : pretty_flags_e1 [some (.int 0), some (.ref 0), x, y] [.list names] = some (.next, [some (.int 0), some (.ref 0), x, y], [.list (names ++ [.str (hexS 0)])]) := by
  have e3 : ∀ σ : St, hexO [.int 0] σ = some (.str (hexS 0), σ) := fun σ => by
    unfold hexO
    dsimp only
    rw [if_pos hex0_short]
  have e7 : appO (.ref 0) [.str (hexS 0)] [.list names] = some (.con .none, [.list (names ++ [.str (hexS 0)])]) := by
    unfold appO
    simp [hn]
  have e8 : okL (.ref 0) [.list names] = true := rfl
  simp only [pretty_flags_e1, pretty_flags_s5, seqS, skipS, exprS, methO, varE, Fm.get, List.getD_cons_zero, List.getD_cons_succ, Option.map_some, Option.bind_some, e8, if_true, consEs, callE, nilEs, e3, e7]
theorem pf_loop : ∀ (k i q fuel : Nat) (x y : Option AV) (names : List AV), i + k = 32 → q < 2 ^ k → k < fuel → names.length + k ≤ 40 →
    ∃ a b c, forGo false (nameA 2) pretty_flags_b1 pretty_flags_e1 fuel (.range i 1 k) [some (.int ((2 ^ i * q : Nat) : Int)), some (.ref 0), x, y] [.list names] =
      some (.next, [a, some (.ref 0), b, c], [.list (names ++ (if q = 0 then [.str (hexS 0)] else (bitsFrom k i q).map fun i => .str (nameOf i)))])
  | 0, i, q, fuel, x, y, names, hi, hq, hf, hl => by
    obtain ⟨f, rfl⟩ : ∃ f, fuel = f + 1 := ⟨fuel - 1, by (first | lia | omega)⟩
    have : q = 0 := by (first | lia | omega)
    subst this
    rw [for_range_zero, Nat.mul_zero]
    exact ⟨_, _, _, pf_end x y names (by (first | lia | omega))⟩
  | k + 1, i, q, fuel, x, y, names, hi, hq, hf, hl => by
    obtain ⟨f, rfl⟩ : ∃ f, fuel = f + 1 := ⟨fuel - 1, by (first | lia | omega)⟩
    have ha : nameA 2 (.int (i : Int)) [some (.int ((2 ^ i * q : Nat) : Int)), some (.ref 0), x, y] [.list names] = some ([some (.int ((2 ^ i * q : Nat) : Int)), some (.ref 0), some (.int i), y], [.list names]) := rfl
    have h2 : 2 ^ (k + 1) = 2 * 2 ^ k := by rw [Nat.pow_succ]; (first | lia | omega)
    have hi1 : ((i : Int) + 1) = ((i + 1 : Nat) : Int) := by (first | lia | omega)
    rcases Nat.mod_two_eq_zero_or_one q with hq2 | hq2
    · rw [for_range_next ha (pf_even i q (by (first | lia | omega)) hq2 y names), hi1]
      have e1 : 2 ^ i * q = 2 ^ (i + 1) * (q / 2) := by
        rw [Nat.pow_succ, Nat.mul_assoc]
        congr 1
        (first | lia | omega)
      rw [e1]
      obtain ⟨a, b, c, h⟩ := pf_loop k (i + 1) (q / 2) f _ _ names (by (first | lia | omega)) (by (first | lia | omega)) (by (first | lia | omega)) (by (first | lia | omega))
      refine ⟨a, b, c, h.trans ?_⟩
      congr 6
      by_cases hz : q = 0
      · subst hz; rfl
      · rw [if_neg hz, if_neg (by (first | lia | omega))]
        show _ = (if q % 2 = 1 then _ else _ : List Nat).map _
        rw [if_neg (by (first | lia | omega))]
    · by_cases hz : q - 1 = 0
      · have h := pf_odd i q (by (first | lia | omega)) hq2 y names (by (first | lia | omega))
        rw [if_pos hz] at h
        rw [for_range_brk ha h]
        refine ⟨some (.int ((2 ^ i * (q - 1) : Nat) : Int)), some (.int i), some (.int ((2 ^ i : Nat) : Int)), ?_⟩
        have e1 : q = 1 := by (first | lia | omega)
        subst e1
        rw [if_neg (by (first | lia | omega))]
        show _ = some (Fl.next, _, [AO.list (names ++ (i :: bitsFrom k (i + 1) 0).map _)])
        rw [bits_zero]
        rfl
      · have h := pf_odd i q (by (first | lia | omega)) hq2 y names (by (first | lia | omega))
        rw [if_neg hz] at h
        rw [for_range_next ha h, hi1]
        have e1 : 2 ^ i * (q - 1) = 2 ^ (i + 1) * (q / 2) := by
          rw [Nat.pow_succ, Nat.mul_assoc]
          congr 1
          (first | lia | omega)
        rw [e1]
        obtain ⟨a, b, c, h⟩ := pf_loop k (i + 1) (q / 2) f _ _ (names ++ [.str (nameOf i)]) (by (first | lia | omega)) (by (first | lia | omega)) (by (first | lia | omega)) (by simp; (first | lia | omega))
        refine ⟨a, b, c, h.trans ?_⟩
        rw [if_neg (by (first | lia | omega)), if_neg (by (first | lia | omega)), List.append_assoc]
        show _ = some (Fl.next, _, [AO.list (names ++ (if q % 2 = 1 then i :: bitsFrom k (i + 1) (q / 2) else _ : List Nat).map _)])
        rw [if_pos hq2]
        rfl
theorem strsOf_map : ∀ l : List Str, strsOf (l.map .str) = some l
  | [] => rfl
  | x :: l => by
    show (strsOf (l.map .str)).map (x :: ·) = _
    rw [strsOf_map l]
    rfl
theorem name_short : ∀ i, i < 32 → (nameOf i).length ≤ 20 := by decide +kernel
theorem bits_lt : ∀ k i q, ∀ j ∈ bitsFrom k i q, i ≤ j ∧ j < i + k
  | 0, _, _, _, h => nomatch h
  | k + 1, i, q, j, h => by
    unfold bitsFrom at h
    split at h
    · rcases List.mem_cons.mp h with rfl | h
      · (first | lia | omega)
      · have := bits_lt k (i + 1) (q / 2) j h; (first | lia | omega)
    · have := bits_lt k (i + 1) (q / 2) j h; (first | lia | omega)
theorem bits_len : ∀ k i q, (bitsFrom k i q).length ≤ k
  | 0, _, _ => Nat.le_refl _
  | k + 1, i, q => by
    unfold bitsFrom
    split
    · have := bits_len k (i + 1) (q / 2); simp; (first | lia | omega)
    · have := bits_len k (i + 1) (q / 2); (first | lia | omega)
theorem flag_short (n : Nat) : (flagList n).length ≤ 32 ∧ ∀ s ∈ flagList n, s.length ≤ 20 := by
  unfold flagList
  split
  · refine ⟨by decide, fun s h => ?_⟩
    rw [List.mem_singleton.mp h]
    decide +kernel
  · refine ⟨by rw [List.length_map]; exact bits_len _ _ _, fun s h => ?_⟩
    obtain ⟨j, hj, rfl⟩ := List.mem_map.mp h
    exact name_short j (by have := bits_lt _ _ _ j hj; (first | lia | omega))
theorem fold_len (x : Str) (m : Nat) : ∀ (l : List Str) (a : Nat), (∀ s ∈ l, s.length ≤ m) → l.foldl (· + ·.length + x.length) a ≤ a + l.length * (m + x.length)
  | [], a, _ => by simp
  | s :: l, a, h => by
    have h1 := h s (List.mem_cons_self ..)
    have := fold_len x m l (a + s.length + x.length) fun s h' => h s (List.mem_cons_of_mem _ h')
    rw [List.foldl_cons, List.length_cons, Nat.add_mul]
    omega
theorem join_spec {l : List Str} {σ : St} {id : Nat} (hσ : σ[id]? = some (.list (l.map .str))) (hl : l.length ≤ 32) (hs : ∀ s ∈ l, s.length ≤ 20) : joinO (.str commaS) [.ref id] σ = some (.str (Builtin.Str.glued commaS l), σ) := by
  unfold joinO
  dsimp only
  rw [hσ]
  dsimp only
  rw [strsOf_map]
  dsimp only
  rw [if_pos]
  unfold Builtin.Str.tooLong
  have := fold_len commaS 20 l 0 hs
  have hcl := comma_len
  have hz : sizeLine = 2 ^ 24 := rfl
  rw [← Array.foldl_toList]
  simp only [decide_eq_false_iff_not, gt_iff_lt, hz]
  have h2 : l.length * (20 + commaS.length) ≤ 32 * 22 := by rw [hcl]; exact Nat.mul_le_mul_right _ hl
  (first | lia | omega)
theorem plain_eq {n nl : Nat} {bf : SF} {as : List AV} {σ : St} (h : as.length = n) : plainF n nl bf as σ = callF nl bf as σ := if_pos h
theorem pretty_spec (n : Nat) (h : n < 2 ^ 32) : ∃ σ', op_pretty_flags_1 [.int n] [] = some (.str (Builtin.Str.glued commaS (flagList n)), σ') := by
  obtain ⟨a, b, c, hL⟩ := pf_loop 32 0 n 65536 none none [] rfl h (by (first | lia | omega)) (by simp)
  rw [Nat.pow_zero, Nat.one_mul, List.nil_append] at hL
  have hfl : (if n = 0 then [AV.str (hexS 0)] else (bitsFrom 32 0 n).map fun i => AV.str (nameOf i)) = (flagList n).map .str := by
    unfold flagList
    split
    · rfl
    · rw [List.map_map]; rfl
  rw [hfl] at hL
  obtain ⟨h1, h2⟩ := flag_short n
  have hj := join_spec (σ := [.list ((flagList n).map .str)]) (id := 0) rfl h1 h2
  refine ⟨[.list ((flagList n).map .str)], ?_⟩
  refine (plain_eq (n := 1) rfl).trans ?_
  unfold callF
  have e1 : pretty_flags_F ([AV.int n].map some ++ List.replicate 3 none) [] = some (.ret (.str (Builtin.Str.glued commaS (flagList n))), [a, some (.ref 0), b, c], [.list ((flagList n).map .str)]) := by
    show (forGo false (nameA 2) pretty_flags_b1 pretty_flags_e1 65536 (.range (0 : Nat) 1 32) [some (.int n), some (.ref 0), none, none] [.list []] |>.bind fun p => match p.1 with | .next => seqS pretty_flags_s6 skipS p.2.1 p.2.2 | _ => some p) = _
    rw [hL, Option.bind_some]
    show (seqS pretty_flags_s6 skipS [a, some (.ref 0), b, c] [.list ((flagList n).map .str)]) = _
    have hj' : joinO (.str (Str.ofString ", ")) [.ref 0] [.list ((flagList n).map .str)] = some (.str (Builtin.Str.glued commaS (flagList n)), [.list ((flagList n).map .str)]) := hj
    simp only [pretty_flags_s6, seqS, retS, methO, valE, okS, if_true, consEs, nilEs, varE, Fm.get, List.getD_cons_zero, List.getD_cons_succ, Option.map_some, Option.bind_some, hj']
  rw [e1]
  rfl
end Mine
end
section
set_option maxRecDepth 100000
namespace Mine
theorem bit_add {n a : Nat} (h : n.testBit a = false) (j : Nat) : (2 ^ a + n).testBit j = (decide (a = j) || n.testBit j) := by
  rcases Nat.lt_trichotomy j a with hj | hj | hj
  · rw [Nat.testBit_two_pow_add_gt hj]
    have : ¬ a = j := by (first | lia | omega)
    simp [this]
  · subst hj
    rw [Nat.testBit_two_pow_add_eq, h]
    simp
  · have hv : n % 2 ^ (a + 1) < 2 ^ a := by
      rw [Nat.testBit_eq_decide_div_mod_eq] at h
      have h2 : n / 2 ^ a % 2 = 0 := by
        have := Nat.mod_two_eq_zero_or_one (n / 2 ^ a)
        simp at h; (first | lia | omega)
      rw [Nat.pow_succ, Nat.mod_mul, h2, Nat.mul_zero, Nat.add_zero]
      exact Nat.mod_lt _ (Nat.two_pow_pos a)
    have e1 : n = 2 ^ (a + 1) * (n / 2 ^ (a + 1)) + n % 2 ^ (a + 1) := (Nat.div_add_mod n (2 ^ (a + 1))).symm
    have e2 : 2 ^ a + n = 2 ^ (a + 1) * (n / 2 ^ (a + 1)) + (2 ^ a + n % 2 ^ (a + 1)) := by (first | lia | omega)
    have hp : 2 ^ (a + 1) = 2 * 2 ^ a := by rw [Nat.pow_succ]; (first | lia | omega)
    have hne : ¬ a = j := by (first | lia | omega)
    rw [e2, Nat.testBit_two_pow_mul_add _ (by (first | lia | omega)), if_neg (by (first | lia | omega))]
    conv => rhs; rw [e1, Nat.testBit_two_pow_mul_add _ (by (first | lia | omega)), if_neg (by (first | lia | omega))]
    simp [hne]
theorem sum_bits : ∀ {S : List Nat}, S.Nodup → ∀ j, ((S.map fun p => 2 ^ p).sum).testBit j = decide (j ∈ S)
  | [], _, j => by simp
  | a :: S, h, j => by
    obtain ⟨ha, hS⟩ := List.nodup_cons.mp h
    have ih := sum_bits hS
    rw [List.map_cons, List.sum_cons, bit_add (by rw [ih]; simp [ha]), ih]
    by_cases hj : a = j
    · subst hj; simp
    · have : ¬ j = a := fun e => hj e.symm
      simp [hj, this]
theorem sum_lt {S : List Nat} {k : Nat} (h : S.Nodup) (hlt : ∀ p ∈ S, p < k) : (S.map fun p => 2 ^ p).sum < 2 ^ k := by
  apply Nat.lt_pow_two_of_testBit
  intro i hi
  rw [sum_bits h]
  simp only [decide_eq_false_iff_not]
  intro hm
  have := hlt i hm
  (first | lia | omega)
theorem mem_bits : ∀ (k i q j : Nat), j ∈ bitsFrom k i q ↔ i ≤ j ∧ j < i + k ∧ q.testBit (j - i) = true
  | 0, i, q, j => by
    constructor
    · intro h; cases h
    · intro h; (first | lia | omega)
  | k + 1, i, q, j => by
    have ih := mem_bits k (i + 1) (q / 2) j
    have key : j ≠ i → i ≤ j → (q / 2).testBit (j - (i + 1)) = q.testBit (j - i) := fun h1 h2 => by
      rw [Nat.testBit_div_two, show j - (i + 1) + 1 = j - i by (first | lia | omega)]
    have key0 : q.testBit (i - i) = decide (q % 2 = 1) := by rw [Nat.sub_self, Nat.testBit_zero]
    unfold bitsFrom
    split
    · rename_i hq
      rw [List.mem_cons, ih]
      constructor
      · rintro (rfl | ⟨h1, h2, h3⟩)
        · exact ⟨Nat.le_refl _, by (first | lia | omega), by rw [key0]; simp [hq]⟩
        · rw [key (by (first | lia | omega)) (by (first | lia | omega))] at h3
          exact ⟨by (first | lia | omega), by (first | lia | omega), h3⟩
      · rintro ⟨h1, h2, h3⟩
        by_cases hj : j = i
        · exact .inl hj
        · rw [← key hj h1] at h3
          exact .inr ⟨by (first | lia | omega), by (first | lia | omega), h3⟩
    · rename_i hq
      rw [ih]
      constructor
      · rintro ⟨h1, h2, h3⟩
        rw [key (by (first | lia | omega)) (by (first | lia | omega))] at h3
        exact ⟨by (first | lia | omega), by (first | lia | omega), h3⟩
      · rintro ⟨h1, h2, h3⟩
        by_cases hj : j = i
        · subst hj
          rw [key0] at h3
          exact absurd (of_decide_eq_true h3) hq
        · rw [← key hj h1] at h3
          exact ⟨by (first | lia | omega), by (first | lia | omega), h3⟩

/-! the names -/
noncomputable def nameC (i : Nat) : List Nat := (nameOf i).cps.toList
theorem names_plain : ((List.range 32).all fun i => !(nameC i).contains 44 && !((nameC i) == (hexS 0).cps.toList)) = true := by decide +kernel
theorem hex0_plain : (hexS 0).cps.toList.contains 44 = false := by decide +kernel
theorem name_plain {i : Nat} (hi : i < 32) : 44 ∉ nameC i ∧ nameC i ≠ (hexS 0).cps.toList := by
  have := List.all_eq_true.mp names_plain i (List.mem_range.mpr hi)
  rw [Bool.and_eq_true] at this
  refine ⟨fun h => ?_, fun h => ?_⟩
  · have h1 := this.1
    rw [List.contains_iff_mem.mpr h] at h1
    cases h1
  · have h1 := this.2
    rw [h] at h1
    simp at h1
theorem flag_plain {n : Nat} (h32 : n < 2 ^ 32) : flagList n ≠ [] ∧ ∀ s ∈ flagList n, 44 ∉ s.cps.toList := by
  unfold flagList
  split
  · refine ⟨by simp, fun s h hm => ?_⟩
    rw [List.mem_singleton.mp h] at hm
    have := hex0_plain
    rw [List.contains_iff_mem.mpr hm] at this
    cases this
  · rename_i hn
    refine ⟨fun h => ?_, fun s h => ?_⟩
    · obtain ⟨i, hi⟩ := Nat.exists_testBit_of_ne_zero hn
      have hi32 : i < 32 := by
        rcases Nat.lt_or_ge i 32 with h' | h'
        · exact h'
        · have h1 := Nat.ge_two_pow_of_testBit hi
          have h2 : 2 ^ 32 ≤ 2 ^ i := Nat.pow_le_pow_right (by (first | lia | omega)) h'
          (first | lia | omega)
      have hm : i ∈ bitsFrom 32 0 n := (mem_bits _ _ _ _).mpr ⟨by (first | lia | omega), by (first | lia | omega), by simpa using hi⟩
      have := congrArg List.length h
      rw [List.length_map] at this
      have h0 : bitsFrom 32 0 n = [] := List.length_eq_zero_iff.mp this
      rw [h0] at hm
      cases hm
    · obtain ⟨j, hj, rfl⟩ := List.mem_map.mp h
      have := bits_lt _ _ _ j hj
      exact (name_plain (i := j) (by (first | lia | omega))).1
end Mine
end
section
set_option maxRecDepth 100000
namespace Mine
open PySem.StrLaws PySem.Builtin.Str
noncomputable abbrev avN (l : List Nat) : List AV := l.map fun (n : Nat) => AV.int (n : Int)
noncomputable abbrev avS (l : List Str) : List AV := l.map .str
theorem intsOf_avN (l : List Nat) : intsOf (avN l) = some (l.map fun (n : Nat) => (n : Int)) := by
  induction l with
  | nil => rfl
  | cons a l ih =>
    show (intsOf (avN l)).map ((a : Int) :: ·) = _
    rw [ih]; rfl
theorem sum_cast (l : List Nat) : (l.map fun (n : Nat) => (n : Int)).sum = (l.sum : Int) := by
  induction l with
  | nil => rfl
  | cons a l ih => rw [List.map_cons, List.sum_cons, List.sum_cons, ih]; (first | lia | omega)
theorem sumO_avN {σ : St} {id : Nat} {l : List Nat} (h : σ[id]? = some (.list (avN l))) : sumO [.ref id] σ = some (.int (l.sum : Nat), σ) := by
  unfold sumO
  dsimp only
  rw [h]
  dsimp only
  rw [intsOf_avN, Option.map_some, sum_cast]
theorem lenO_list {σ : St} {id : Nat} {l : List AV} (h : σ[id]? = some (.list l)) (hl : l.length ≤ 65536) : lenO [.ref id] σ = some (.int (l.length : Nat), σ) := by
  unfold lenO
  dsimp only
  rw [h]
  dsimp only
  rw [if_pos hl]
theorem fdiv_nat (a b : Nat) : ((a : Int).fdiv (b : Int)) = ((a / b : Nat) : Int) := by rw [Int.fdiv_eq_ediv_of_nonneg _ (by (first | lia | omega))]; rfl
theorem fmod_nat (a b : Nat) : ((a : Int).fmod (b : Int)) = ((a % b : Nat) : Int) := by rw [Int.fmod_eq_emod_of_nonneg _ (by (first | lia | omega))]; rfl
theorem modO_nat {a b : Nat} {σ : St} (hb : b ≠ 0) : modO (.int a) (.int b) σ = some (.int ((a % b : Nat) : Int), σ) := by
  unfold modO
  dsimp only
  rw [if_neg (by (first | lia | omega)), fmod_nat]
theorem fdivO_nat {a b : Nat} {σ : St} (hb : b ≠ 0) (h2 : b < 1073741824) : fdivO (.int a) (.int b) σ = some (.int ((a / b : Nat) : Int), σ) := by
  unfold fdivO
  dsimp only
  rw [if_neg (by (first | lia | omega)), fdiv_nat]
theorem shlO_nat {p : Nat} {σ : St} (h : p ≤ 1000) : shlO (.int 1) (.int p) σ = some (.int ((2 ^ p : Nat) : Int), σ) := by
  unfold shlO
  dsimp only
  rw [if_pos ⟨by (first | lia | omega), by (first | lia | omega), by decide⟩, Int.toNat_natCast, pow_cast]
theorem joined_short {n : Nat} : (Builtin.Str.glued commaS (flagList n)).length ≤ 65536 := by
  obtain ⟨h1, h2⟩ := flag_short n
  rw [size_glued]
  have hs : ∀ (l : List Str), (∀ s ∈ l, s.length ≤ 20) → (l.map (·.length)).sum ≤ l.length * 20 := by
    intro l
    induction l with
    | nil => intro _; simp
    | cons a l ih =>
      intro h
      have h1 := h a (List.mem_cons_self ..)
      have h2 := ih fun s hs => h s (List.mem_cons_of_mem _ hs)
      rw [List.map_cons, List.sum_cons, List.length_cons]
      (first | lia | omega)
  have h3 := hs _ h2
  rw [comma_len]
  (first | lia | omega)
theorem pretty_f {n : Nat} (h : n < 2 ^ 32) (σ : St) : op_pretty_flags_f [.int n] σ = some (.str (Builtin.Str.glued commaS (flagList n)), σ) := by
  obtain ⟨σ1, e⟩ := pretty_spec n h
  have := frame0 (op := op_pretty_flags_1) (σ := σ) (as := [.int n]) rfl e (adopt_none (ids := []) (σ := σ) (σ1 := σ1) (r := .str (Builtin.Str.glued commaS (flagList n))) rfl)
  rwa [List.append_nil] at this
theorem split_f {n : Nat} (h : n < 2 ^ 32) (σ : St) : splO (.str (Builtin.Str.glued commaS (flagList n))) [.str (Str.ofString ", ")] σ = some (.ref σ.length, σ ++ [.list (avS (flagList n))]) := by
  obtain ⟨h1, h2⟩ := flag_plain h
  unfold splO
  dsimp only
  rw [if_pos ⟨by decide +kernel, joined_short⟩]
  show some (AV.ref σ.length, σ ++ [AO.list ((Txt.split (Builtin.Str.glued commaS (flagList n)) commaS).map .str)]) = _
  rw [split_join h1 h2]

theorem toNat_map (l : List Nat) : l.map (Int.toNat ∘ fun (n : Nat) => (n : Int)) = l := by
  conv => rhs; rw [← List.map_id l]
  exact List.map_congr_left fun n _ => Int.toNat_natCast n
theorem fits_long {i : Int} (h1 : -100000000 ≤ i) (h2 : i ≤ 100000000) : Builtin.Range.rangeFitsLong i = true := by
  unfold Builtin.Range.rangeFitsLong
  rw [Bool.and_eq_true]
  exact ⟨decide_eq_true (by (first | lia | omega)), decide_eq_true (by (first | lia | omega))⟩
theorem range_size1 (a b : Nat) : Builtin.Range.rangeSize a b 1 = ((b - a : Nat) : Int) := by
  unfold Builtin.Range.rangeSize
  rw [if_pos (by (first | lia | omega))]
  split
  · rw [Int.ediv_one]; (first | lia | omega)
  · (first | lia | omega)
theorem rngIt_one {a b : Nat} (ha : a ≤ 65536) (hb : b ≤ 65536) : rngIt a b 1 = some (.range a 1 (b - a)) := by
  unfold rngIt
  rw [range_size1, Int.toNat_natCast, if_pos]
  refine ⟨?_, by (first | lia | omega)⟩
  unfold Builtin.Range.small
  rw [range_size1]
  simp only [fits_long (i := (a : Int)) (by (first | lia | omega)) (by (first | lia | omega)), fits_long (i := (b : Int)) (by (first | lia | omega)) (by (first | lia | omega)), fits_long (i := 1) (by (first | lia | omega)) (by (first | lia | omega)), fits_long (i := ((b - a : Nat) : Int)) (by (first | lia | omega)) (by (first | lia | omega)), Bool.true_and]
  rw [if_pos (by (first | lia | omega)), show (b : Int) + (1 - 1) = b by (first | lia | omega), fits_long (i := (b : Int)) (by (first | lia | omega)) (by (first | lia | omega)), Bool.or_true]
theorem rngIt_to {b : Nat} (hb : b ≤ 65536) : rngIt 0 (b : Int) 1 = some (.range 0 1 b) := by
  have h := rngIt_one (a := 0) (b := b) (Nat.zero_le _) hb
  rw [Nat.sub_zero] at h
  exact h
theorem rngI_to {i : Nat} {b : Nat} {ρ : Fm} {σ : St} (hb : b ≤ 65536) (h : Fm.get ρ i = some (.int b)) : rngI (rngF (consEs (varE i) nilEs)) ρ σ = some (.range 0 1 b, σ) := by
  have e : rngF (consEs (varE i) nilEs) ρ σ = some ((0, (b : Int), 1), σ) := by
    unfold rngF consEs varE
    rw [h]
    rfl
  unfold rngI
  rw [e, Option.bind_some]
  dsimp only
  rw [rngIt_to hb, Option.bind_some]
theorem callF_of {nl : Nat} {bf : SF} {as : List AV} {σ : St} {v : AV} {ρ' : Fm} {σ' : St} {ρ : Fm} (hρ : as.map some ++ List.replicate nl none = ρ) (h : bf ρ σ = some (.ret v, ρ', σ')) : callF nl bf as σ = some (v, σ') := by
  unfold callF
  rw [hρ, h]
  rfl
end Mine
end
section
set_option maxRecDepth 100000
namespace Mine
/-! _byteswap: each row turned about -/
theorem set_mid {α : Type} (A B : List α) (z x : α) : (A ++ z :: B).set A.length x = A ++ x :: B := by
  rw [List.set_append_right _ _ (Nat.le_refl _), Nat.sub_self]
  rfl
theorem no_pylong {a b : Int} (hb : b.natAbs < 2 ^ 30) : Builtin.divisionGoesByPylong a b = false := by
  unfold Builtin.divisionGoesByPylong
  have h : (if (b == 0) = true then 0 else b.natAbs.log2 / 30 + 1) ≤ 2 := by
    split
    · (first | lia | omega)
    · rename_i h0
      have hn : b.natAbs ≠ 0 := fun h => h0 (by simp; (first | lia | omega))
      have := (Nat.log2_lt hn).mpr hb
      (first | lia | omega)
  dsimp only
  have h2 : decide ((if (b == 0) = true then 0 else b.natAbs.log2 / 30 + 1) > 300) = false := by
    rw [decide_eq_false_iff_not]; (first | lia | omega)
  rw [h2, Bool.false_and]
theorem range_size_w {m w : Nat} (hw : 0 < w) : Builtin.Range.rangeSize 0 ((m * w : Nat) : Int) (w : Int) = (m : Int) := by
  unfold Builtin.Range.rangeSize
  rw [if_pos (by (first | lia | omega))]
  cases m with
  | zero => rw [Nat.zero_mul]; rfl
  | succ m =>
    have h1 : (m + 1) * w = w * m + w := by rw [Nat.succ_mul, Nat.mul_comm]
    have hpos : 0 < (m + 1) * w := by (first | lia | omega)
    rw [if_pos (by (first | lia | omega))]
    have e1 : (((m + 1) * w : Nat) : Int) - 0 - 1 = ((w * m + (w - 1) : Nat) : Int) := by (first | lia | omega)
    rw [e1]
    have e2 : ((w * m + (w - 1) : Nat) : Int) / (w : Int) = (((w * m + (w - 1)) / w : Nat) : Int) := rfl
    rw [e2, Nat.mul_add_div hw, Nat.div_eq_of_lt (by (first | lia | omega))]
    (first | lia | omega)
theorem rngIt_step {m w : Nat} (hw : 0 < w) (hw2 : w ≤ 65536) (hm : m * w ≤ 65536) : rngIt 0 ((m * w : Nat) : Int) (w : Int) = some (.range 0 w m) := by
  have hmw : m ≤ m * w := Nat.le_mul_of_pos_right m hw
  unfold rngIt
  rw [range_size_w hw, Int.toNat_natCast, if_pos]
  refine ⟨?_, by (first | lia | omega)⟩
  unfold Builtin.Range.small
  rw [range_size_w hw]
  simp only [fits_long (i := 0) (by (first | lia | omega)) (by (first | lia | omega)), fits_long (i := ((m * w : Nat) : Int)) (by (first | lia | omega)) (by (first | lia | omega)), fits_long (i := (w : Int)) (by (first | lia | omega)) (by (first | lia | omega)), fits_long (i := (m : Int)) (by (first | lia | omega)) (by (first | lia | omega)), Bool.true_and]
  rw [if_pos (by (first | lia | omega)), fits_long (by (first | lia | omega)) (by (first | lia | omega)), Bool.or_true]
theorem rngI_step {ρ : Fm} {σ : St} {f2 f3 : EF} {m w : Nat} (hw : 0 < w) (hw2 : w ≤ 65536) (hm : m * w ≤ 65536) (h2 : f2 ρ σ = some (.int ((m * w : Nat) : Int), σ)) (h3 : f3 ρ σ = some (.int w, σ)) :
    rngI (rngF (consEs (valE (.int 0)) (consEs f2 (consEs f3 nilEs)))) ρ σ = some (.range 0 w m, σ) := by
  have e : rngF (consEs (valE (.int 0)) (consEs f2 (consEs f3 nilEs))) ρ σ = some ((0, ((m * w : Nat) : Int), (w : Int)), σ) := by
    have e0 : consEs (valE (.int 0)) (consEs f2 (consEs f3 nilEs)) ρ σ = some ([.int 0, .int ((m * w : Nat) : Int), .int w], σ) := by
      simp only [consEs, valE, Option.bind_some, h2, h3, nilEs]
    unfold rngF
    rw [e0, Option.bind_some]
    dsimp only
    rw [if_pos ⟨by (first | lia | omega), no_pylong (by rw [Int.natAbs_natCast]; (first | lia | omega))⟩]
  unfold rngI
  rw [e, Option.bind_some]
  dsimp only
  rw [rngIt_step hw hw2 hm, Option.bind_some]
theorem subO_nat {a b : Nat} (h : b ≤ a) {σ : St} : subO (.int (a : Nat)) (.int (b : Nat)) σ = some (.int ((a - b : Nat) : Int), σ) := by
  rw [Int.natCast_sub h]
  rfl
theorem swap_put {d : List Nat} {w base j x m : Nat} {pre R : List Nat} (hx : d[base + j]? = some x) (hx2 : x < 256) (hd : d.length ≤ 65536) (hb : pre.length = base) (hm : base + w - 1 - j = base + m) (hjw : j < w) (hl : (pre ++ (List.replicate (m + 1) 0 ++ R)).length ≤ 65536) :
    byteswap_b1 [some (.bytes d), some (.int w), some (.ref 0), some (.int base), some (.int j)] [.barr (pre ++ (List.replicate (m + 1) 0 ++ R))] =
      some (.next, [some (.bytes d), some (.int w), some (.ref 0), some (.int base), some (.int j)], [.barr (pre ++ (List.replicate m 0 ++ (x :: R)))]) := by
  have hlt := (List.getElem?_eq_some_iff.mp hx).1
  have g1 : ∀ σ : St, getO (.bytes d) (.int ((base + j : Nat) : Int)) σ = some (.int (x : Nat), σ) := fun σ => by
    unfold getO
    dsimp only
    rw [if_pos ⟨Int.natCast_nonneg _, Int.ofNat_lt.mpr hlt, hd⟩, Int.toNat_natCast, List.getD_eq_getElem?_getD, hx]
    rfl
  have a1 : ∀ σ : St, addO (.int (base : Nat)) (.int (j : Nat)) σ = some (.int ((base + j : Nat) : Int), σ) := fun σ => rfl
  have a2 : ∀ σ : St, addO (.int (base : Nat)) (.int (w : Nat)) σ = some (.int ((base + w : Nat) : Int), σ) := fun σ => rfl
  have s1 : ∀ σ : St, subO (.int ((base + w : Nat) : Int)) (.int 1) σ = some (.int ((base + w - 1 : Nat) : Int), σ) := fun σ => subO_nat (b := 1) (Nat.le_trans (Nat.le_trans (Nat.succ_le_succ (Nat.zero_le j)) hjw) (Nat.le_add_left w base))
  have s2 : ∀ σ : St, subO (.int ((base + w - 1 : Nat) : Int)) (.int (j : Nat)) σ = some (.int ((base + m : Nat) : Int), σ) := fun σ => by
    rw [← hm]
    exact subO_nat (Nat.le_sub_of_add_le (Nat.le_trans hjw (Nat.le_add_left w base)))
  have p1 : setO (.ref 0) (.int ((base + m : Nat) : Int)) (.int (x : Nat)) [.barr (pre ++ (List.replicate (m + 1) 0 ++ R))] = some [.barr (pre ++ (List.replicate m 0 ++ (x :: R)))] := by
    have hll : base + m < (pre ++ (List.replicate (m + 1) 0 ++ R)).length := by
      rw [List.length_append, List.length_append, List.length_replicate, hb, Nat.add_assoc m 1]
      exact Nat.add_lt_add_left (Nat.lt_add_of_pos_right (Nat.lt_of_lt_of_le Nat.zero_lt_one (Nat.le_add_right ..))) _
    unfold setO
    dsimp only [List.getElem?_cons_zero]
    rw [if_pos ⟨Int.natCast_nonneg _, Int.ofNat_lt.mpr hll, hl, Int.natCast_nonneg _, Int.ofNat_lt.mpr hx2⟩, Int.toNat_natCast, Int.toNat_natCast]
    have e1 : pre ++ (List.replicate (m + 1) 0 ++ R) = (pre ++ List.replicate m 0) ++ 0 :: R := by
      rw [List.replicate_succ', List.append_assoc, List.append_assoc]; rfl
    rw [e1]
    have e2 : base + m = (pre ++ List.replicate m 0).length := by rw [List.length_append, List.length_replicate, hb]
    rw [e2, set_mid]
    show some [AO.barr (pre ++ List.replicate m 0 ++ x :: R)] = _
    rw [List.append_assoc]
  simp only [byteswap_b1, byteswap_s2, seqS, skipS, putS, binE, varE, valE, Fm.get, List.getD_cons_zero, List.getD_cons_succ, Option.map_some, Option.bind_some, a1, g1, a2, s1, s2, p1]
theorem swap_row {d row : List Nat} {w base : Nat} {pre suf : List Nat} {y : Option AV} (hrow : row.length = w) (hr : ∀ j, j < w → d[base + j]? = row[j]?) (h256 : ∀ x ∈ row, x < 256) (hd : d.length ≤ 65536) (hb : pre.length = base) (hw : w ≤ 65535) (hl : pre.length + w + suf.length ≤ 65536) :
    ∃ y', byteswap_b2 [some (.bytes d), some (.int w), some (.ref 0), some (.int base), y] [.barr (pre ++ (List.replicate w 0 ++ suf))] =
      some (.next, [some (.bytes d), some (.int w), some (.ref 0), some (.int base), y'], [.barr (pre ++ (row.reverse ++ suf))]) := by
  obtain ⟨ρ', σ', e, ⟨y', rfl⟩, rfl⟩ := for_range_inv (tf := nameA 4) (bf := byteswap_b1) (ef := skipS) (st := 1)
    (fun j ρ σ => (∃ y, ρ = [some (.bytes d), some (.int w), some (.ref 0), some (.int base), y]) ∧ σ = [AO.barr (pre ++ (List.replicate (w - j) 0 ++ ((row.take j).reverse ++ suf)))])
    w 0 0 65536 [some (.bytes d), some (.int w), some (.ref 0), some (.int base), y] [.barr (pre ++ (List.replicate w 0 ++ suf))] (by (first | lia | omega)) ⟨⟨y, rfl⟩, by simp⟩ (by
      rintro j ρ σ h1 h2 ⟨⟨y, rfl⟩, rfl⟩
      rw [Nat.zero_add] at h2
      have hj : row[j]? = some row[j] := List.getElem?_eq_getElem (by (first | lia | omega))
      refine ⟨[some (.bytes d), some (.int w), some (.ref 0), some (.int base), some (.int j)], _, _, _, ?_, swap_put (x := row[j]) (m := w - (j + 1)) (R := (row.take j).reverse ++ suf) ((hr j h2).trans hj) (h256 _ (List.getElem_mem _)) hd hb (by (first | lia | omega)) h2 ?_, ⟨_, rfl⟩, ?_⟩
      · have e1 : w - j = w - (j + 1) + 1 := by (first | lia | omega)
        rw [e1]
        show some ([_, _, _, _, some (AV.int (0 + ((j - 0 : Nat) : Int) * 1))], _) = _
        have : (0 : Int) + ((j - 0 : Nat) : Int) * 1 = (j : Int) := by rw [Nat.sub_zero, Int.mul_one, Int.zero_add]
        rw [this]
      · rw [List.length_append, List.length_append, List.length_replicate, List.length_append, List.length_reverse, List.length_take, hrow, Nat.min_eq_left (Nat.le_of_lt h2)]
        (first | lia | omega)
      · have ht : row.take (j + 1) = row.take j ++ [row[j]] := by rw [List.take_add_one, hj]; rfl
        rw [ht, List.reverse_append]
        rfl)
  refine ⟨y', ?_⟩
  have ef : forS false 65536 (nameA 4) (rngI (rngF (consEs (varE 1) nilEs))) byteswap_b1 skipS [some (.bytes d), some (.int w), some (.ref 0), some (.int base), y] [.barr (pre ++ (List.replicate w 0 ++ suf))] =
      some (.next, [some (.bytes d), some (.int w), some (.ref 0), some (.int base), y'], [.barr (pre ++ (row.reverse ++ suf))]) := by
    unfold forS
    rw [rngI_to (b := w) (by (first | lia | omega)) rfl, Option.bind_some]
    refine e.trans ?_
    rw [Nat.zero_add, Nat.sub_self, List.take_of_length_le (by (first | lia | omega))]
    rfl
  unfold byteswap_b2
  rw [seq_next ef]
  rfl

theorem flat_len {w : Nat} : ∀ {rows : List (List Nat)}, (∀ r ∈ rows, r.length = w) → rows.flatten.length = rows.length * w
  | [], _ => by simp
  | r :: rows, h => by
    rw [List.flatten_cons, List.length_append, h r (List.mem_cons_self ..), flat_len fun q hq => h q (List.mem_cons_of_mem _ hq), List.length_cons, Nat.succ_mul]
    (first | lia | omega)
theorem flatten_get {w : Nat} {rows : List (List Nat)} (h : ∀ r ∈ rows, r.length = w) {a : Nat} {row : List Nat} (ha : rows[a]? = some row) {j : Nat} (hj : j < w) : rows.flatten[a * w + j]? = row[j]? := by
  induction rows generalizing a with
  | nil => simp at ha
  | cons r rows ih =>
    have hr := h r (List.mem_cons_self ..)
    cases a with
    | zero =>
      simp at ha
      subst ha
      rw [Nat.zero_mul, Nat.zero_add, List.flatten_cons, List.getElem?_append_left (by (first | lia | omega))]
    | succ a =>
      have ha' : rows[a]? = some row := by simpa using ha
      rw [List.flatten_cons, List.getElem?_append_right (by rw [hr, Nat.succ_mul]; (first | lia | omega)), hr]
      have : (a + 1) * w + j - w = a * w + j := by rw [Nat.succ_mul]; (first | lia | omega)
      rw [this]
      exact ih (fun q hq => h q (List.mem_cons_of_mem _ hq)) ha'
theorem swap_spec {w : Nat} {rows : List (List Nat)} (hw : 0 < w) (hw2 : w ≤ 65535) (h : ∀ r ∈ rows, r.length = w) (h256 : ∀ r ∈ rows, ∀ x ∈ r, x < 256) (hl : rows.length * w ≤ 65535) :
    ∃ σ', op_byteswap_2 [.bytes rows.flatten, .int w] [] = some (.bytes ((rows.map List.reverse).flatten), σ') := by
  have hfl := flat_len h
  have hrl : rows.length ≤ rows.length * w := Nat.le_mul_of_pos_right _ hw
  have l1 : ∀ σ : St, lenO [.bytes rows.flatten] σ = some (.int ((rows.length * w : Nat) : Int), σ) := fun σ => by
    unfold lenO
    dsimp only
    rw [if_pos (by (first | lia | omega)), hfl]
  have s1 : byteswap_s1 [some (.bytes rows.flatten), some (.int w), none, none, none] [] = some (.next, [some (.bytes rows.flatten), some (.int w), some (.ref 0), none, none], [.barr (List.replicate (rows.length * w) 0)]) := by
    have b1 : baO [.int ((rows.length * w : Nat) : Int)] [] = some (.ref 0, [.barr (List.replicate (rows.length * w) 0)]) := by
      unfold baO
      dsimp only
      rw [if_pos ⟨by (first | lia | omega), by (first | lia | omega)⟩, Int.toNat_natCast]
      rfl
    simp only [byteswap_s1, asgS, callE, consEs, nilEs, varE, Fm.get, Fm.put, List.getD_cons_zero, List.set_cons_succ, List.set_cons_zero, Option.map_some, Option.bind_some, l1, b1]
  obtain ⟨ρ', σ', e, ⟨y, y', rfl⟩, rfl⟩ := for_range_inv (tf := nameA 3) (bf := byteswap_b2) (ef := skipS) (st := (w : Int))
    (fun a ρ σ => (∃ y y', ρ = [some (.bytes rows.flatten), some (.int w), some (.ref 0), y, y']) ∧ σ = [AO.barr (((rows.take a).map List.reverse).flatten ++ List.replicate ((rows.length - a) * w) 0)])
    rows.length 0 0 65536 [some (.bytes rows.flatten), some (.int w), some (.ref 0), none, none] [.barr (List.replicate (rows.length * w) 0)] (by (first | lia | omega)) ⟨⟨_, _, rfl⟩, by simp⟩ (by
      rintro a ρ σ h1 h2 ⟨⟨y, y', rfl⟩, rfl⟩
      rw [Nat.zero_add] at h2
      have hrow : rows[a]? = some rows[a] := List.getElem?_eq_getElem h2
      have hmem : rows[a] ∈ rows := List.getElem_mem _
      have hpre : (((rows.take a).map List.reverse).flatten).length = a * w := by
        rw [flat_len (w := w), List.length_map, List.length_take, Nat.min_eq_left (by (first | lia | omega))]
        intro r hr
        obtain ⟨q, hq, rfl⟩ := List.mem_map.mp hr
        rw [List.length_reverse]
        exact h q (List.mem_of_mem_take hq)
      have e1 : (rows.length - a) * w = w + (rows.length - (a + 1)) * w := by
        have : rows.length - a = (rows.length - (a + 1)) + 1 := by (first | lia | omega)
        rw [this, Nat.succ_mul, Nat.add_comm]
      have e2 : a * w + w + (rows.length - (a + 1)) * w = rows.length * w := by
        have : rows.length = a + 1 + (rows.length - (a + 1)) := by (first | lia | omega)
        conv => rhs; rw [this]
        rw [Nat.add_mul, Nat.succ_mul]
      obtain ⟨y2, eb⟩ := swap_row (d := rows.flatten) (row := rows[a]) (w := w) (base := a * w) (pre := ((rows.take a).map List.reverse).flatten) (suf := List.replicate ((rows.length - (a + 1)) * w) 0) (y := y') (h _ hmem) (fun j hj => flatten_get h hrow hj) (h256 _ hmem) (by (first | lia | omega)) hpre hw2 (by rw [hpre, List.length_replicate]; (first | lia | omega))
      refine ⟨[some (.bytes rows.flatten), some (.int w), some (.ref 0), some (.int ((a * w : Nat) : Int)), y'], _, _, _, ?_, eb, ⟨_, _, rfl⟩, ?_⟩
      · rw [e1, List.replicate_append_replicate.symm]
        show some ([_, _, _, some (AV.int (0 + ((a - 0 : Nat) : Int) * (w : Int))), _], _) = _
        have : (0 : Int) + ((a - 0 : Nat) : Int) * (w : Int) = ((a * w : Nat) : Int) := by rw [Nat.sub_zero, Int.natCast_mul]; (first | lia | omega)
        rw [this]
      · have ht : rows.take (a + 1) = rows.take a ++ [rows[a]] := by rw [List.take_add_one, hrow]; rfl
        rw [ht, List.map_append, List.flatten_append, List.append_assoc]
        simp)
  have ef : forS false 65536 (nameA 3) (rngI (rngF (consEs (valE (.int 0)) (consEs (callE lenO (consEs (varE 0) nilEs)) (consEs (varE 1) nilEs))))) byteswap_b2 skipS [some (.bytes rows.flatten), some (.int w), some (.ref 0), none, none] [.barr (List.replicate (rows.length * w) 0)] =
      some (.next, [some (.bytes rows.flatten), some (.int w), some (.ref 0), y, y'], [.barr (rows.map List.reverse).flatten]) := by
    unfold forS
    rw [rngI_step (m := rows.length) hw (by (first | lia | omega)) (by (first | lia | omega)) (by simp only [callE, consEs, nilEs, varE, Fm.get, List.getD_cons_zero, Option.map_some, Option.bind_some, l1]) rfl, Option.bind_some]
    refine e.trans ?_
    rw [Nat.zero_add, Nat.sub_self, Nat.zero_mul, List.take_length]
    simp [skipS]
  have e3 : byteswap_s3 [some (.bytes rows.flatten), some (.int w), some (.ref 0), y, y'] [.barr (rows.map List.reverse).flatten] =
      some (.ret (.bytes (rows.map List.reverse).flatten), [some (.bytes rows.flatten), some (.int w), some (.ref 0), y, y'], [.barr (rows.map List.reverse).flatten]) := by
    have hl2 : ((rows.map List.reverse).flatten).length = rows.length * w := by
      rw [flat_len (w := w), List.length_map]
      intro r hr
      obtain ⟨q, hq, rfl⟩ := List.mem_map.mp hr
      rw [List.length_reverse]
      exact h q hq
    have b1 : bytO [.ref 0] [.barr (rows.map List.reverse).flatten] = some (.bytes (rows.map List.reverse).flatten, [.barr (rows.map List.reverse).flatten]) := by
      unfold bytO
      dsimp only [List.getElem?_cons_zero]
      rw [if_pos (by (first | lia | omega))]
    simp only [byteswap_s3, retS, callE, consEs, nilEs, varE, Fm.get, List.getD_cons_zero, List.getD_cons_succ, Option.map_some, Option.bind_some, b1]
  have hF : byteswap_F [some (.bytes rows.flatten), some (.int w), none, none, none] [] = some (.ret (.bytes (rows.map List.reverse).flatten), [some (.bytes rows.flatten), some (.int w), some (.ref 0), y, y'], [.barr (rows.map List.reverse).flatten]) := by
    unfold byteswap_F
    rw [seq_next s1, seq_next ef, seq_ret e3]
  exact ⟨_, (plain_eq (n := 2) rfl).trans (callF_of rfl hF)⟩
theorem swap_f {w : Nat} {rows : List (List Nat)} (hw : 0 < w) (hw2 : w ≤ 65535) (h : ∀ r ∈ rows, r.length = w) (h256 : ∀ r ∈ rows, ∀ x ∈ r, x < 256) (hl : rows.length * w ≤ 65535) (σ : St) :
    op_byteswap_f [.bytes rows.flatten, .int w] σ = some (.bytes ((rows.map List.reverse).flatten), σ) := by
  obtain ⟨σ1, e⟩ := swap_spec hw hw2 h h256 hl
  have := frame0 (op := op_byteswap_2) (σ := σ) (as := [.bytes rows.flatten, .int w]) rfl e (adopt_none (ids := []) (σ := σ) (σ1 := σ1) (r := .bytes ((rows.map List.reverse).flatten)) rfl)
  rwa [List.append_nil] at this
end Mine
end
section
set_option maxRecDepth 100000
namespace Mine
/-! bisect_right, insort_right without a key -/
/-- the place: ahead of it no item lies above x, from it on every one -/
structure Place (σ : St) (xs : List AV) (x : AV) (pos : Nat) : Prop where
  le : pos ≤ xs.length
  lo : ∀ (i : Nat) a, xs[i]? = some a → i < pos → ltO x a σ = some (.bool false, σ)
  hi : ∀ (i : Nat) a, xs[i]? = some a → pos ≤ i → ltO x a σ = some (.bool true, σ)
theorem getO_list {σ : St} {id : Nat} {xs : List AV} {i : Nat} {a : AV} (h : σ[id]? = some (.list xs)) (hl : xs.length ≤ 65000) (ha : xs[i]? = some a) : getO (.ref id) (.int (i : Nat)) σ = some (a, σ) := by
  have hlt := (List.getElem?_eq_some_iff.mp ha).1
  unfold getO
  dsimp only
  rw [h]
  dsimp only
  have e : idxN (i : Nat) xs.length = some i := by
    unfold idxN
    rw [if_neg (by (first | lia | omega)), if_pos ⟨by (first | lia | omega), by (first | lia | omega)⟩, Int.toNat_natCast]
  rw [e, Option.bind_some, ha]
  rfl
theorem mid_nat (a b : Nat) (σ : St) : fdivO (.int ((a + b : Nat) : Int)) (.int 2) σ = some (.int (((a + b) / 2 : Nat) : Int), σ) := fdivO_nat (b := 2) (by (first | lia | omega)) (by (first | lia | omega))
section
variable {σ : St} {id : Nat} {xs : List AV} {x : AV} {pos : Nat}
theorem bis_body {lo hi : Nat} {r4 y : Option AV} (h : σ[id]? = some (.list xs)) (hl : xs.length ≤ 65000) (P : Place σ xs x pos) (h1 : lo < hi) (h2 : hi ≤ xs.length) :
    bisect_right_b1 [some (.ref id), some x, some (.int (lo : Nat)), some (.int (hi : Nat)), r4, y] σ =
      some (.next, if (lo + hi) / 2 < pos then [some (.ref id), some x, some (.int (((lo + hi) / 2 + 1 : Nat) : Int)), some (.int (hi : Nat)), r4, some (.int (((lo + hi) / 2 : Nat) : Int))]
        else [some (.ref id), some x, some (.int (lo : Nat)), some (.int (((lo + hi) / 2 : Nat) : Int)), r4, some (.int (((lo + hi) / 2 : Nat) : Int))], σ) := by
  have a1 : addO (.int (lo : Nat)) (.int (hi : Nat)) σ = some (.int ((lo + hi : Nat) : Int), σ) := rfl
  have m1 := mid_nat lo hi σ
  have hm : (lo + hi) / 2 < xs.length := by (first | lia | omega)
  generalize (lo + hi) / 2 = mid at *
  have ha : xs[mid]? = some xs[mid] := List.getElem?_eq_getElem hm
  have g1 := getO_list (i := mid) h hl ha
  have a2 : addO (.int (mid : Nat)) (.int 1) σ = some (.int ((mid + 1 : Nat) : Int), σ) := rfl
  by_cases hp : mid < pos
  · rw [if_pos hp]
    simp only [bisect_right_b1, bisect_right_s2, bisect_right_s3, bisect_right_s4, seqS, skipS, asgS, ifS, cmpT, binE, varE, valE, Fm.get, Fm.put, List.getD_cons_zero, List.getD_cons_succ, List.set_cons_succ, List.set_cons_zero, Option.map_some, Option.bind_some, a1, m1, g1, P.lo mid _ ha hp, a2]
    rfl
  · rw [if_neg hp]
    simp only [bisect_right_b1, bisect_right_s2, bisect_right_s3, bisect_right_s4, seqS, skipS, asgS, ifS, cmpT, binE, varE, valE, Fm.get, Fm.put, List.getD_cons_zero, List.getD_cons_succ, List.set_cons_succ, List.set_cons_zero, Option.map_some, Option.bind_some, a1, m1, g1, P.hi mid _ ha (by (first | lia | omega)), if_true]
theorem while_true {tf : TF} {bf ef : SF} {n : Nat} {ρ ρ1 : Fm} {σ σ1 σ2 : St} (ht : tf ρ σ = some (true, σ1)) (hb : bf ρ σ1 = some (.next, ρ1, σ2)) : whileGo tf bf ef (n + 1) ρ σ = whileGo tf bf ef n ρ1 σ2 := by
  show (tf ρ σ).bind _ = _
  rw [ht, Option.bind_some]
  dsimp only
  rw [if_pos rfl, hb]
  rfl
theorem while_false {tf : TF} {bf ef : SF} {n : Nat} {ρ : Fm} {σ σ1 : St} (ht : tf ρ σ = some (false, σ1)) : whileGo tf bf ef (n + 1) ρ σ = ef ρ σ1 := by
  show (tf ρ σ).bind _ = _
  rw [ht, Option.bind_some]
  dsimp only
  rw [if_neg (by decide)]
theorem bis_test {lo hi : Nat} {r0 r1 r4 y : Option AV} : cmpT ltO (varE 2) (varE 3) [r0, r1, some (.int (lo : Nat)), some (.int (hi : Nat)), r4, y] σ = some (decide (lo < hi), σ) := by
  have : ltO (.int (lo : Nat)) (.int (hi : Nat)) σ = some (.bool (decide (lo < hi)), σ) := by
    show some (AV.bool (decide ((lo : Int) < hi)), σ) = _
    congr 3
    exact decide_eq_decide.mpr (by omega)
  simp only [cmpT, binE, varE, Fm.get, List.getD_cons_zero, List.getD_cons_succ, Option.map_some, Option.bind_some, this]
theorem bis_stop {lo hi fuel : Nat} {r4 y : Option AV} (h2 : 0 < fuel) (hlt : ¬ lo < hi) (h3 : lo ≤ pos) (h4 : pos ≤ hi) :
    whileGo (cmpT ltO (varE 2) (varE 3)) bisect_right_b1 skipS fuel [some (.ref id), some x, some (.int (lo : Nat)), some (.int (hi : Nat)), r4, y] σ = some (.next, [some (.ref id), some x, some (.int (pos : Nat)), some (.int (pos : Nat)), r4, y], σ) := by
  obtain ⟨m, rfl⟩ : ∃ m, fuel = m + 1 := ⟨fuel - 1, by (first | lia | omega)⟩
  have ht : cmpT ltO (varE 2) (varE 3) [some (.ref id), some x, some (.int (lo : Nat)), some (.int (hi : Nat)), r4, y] σ = some (false, σ) := bis_test.trans (by rw [decide_eq_false hlt])
  rw [while_false ht]
  have e1 : lo = pos := by (first | lia | omega)
  have e2 : hi = pos := by (first | lia | omega)
  rw [e1, e2]
  rfl
theorem half_lo {lo hi n : Nat} (h1 : hi - lo ≤ n + 1) (hlt : lo < hi) : hi - ((lo + hi) / 2 + 1) ≤ n ∧ (lo + hi) / 2 - lo ≤ n ∧ (lo + hi) / 2 ≤ hi := by
  have a : lo ≤ (lo + hi) / 2 := (Nat.le_div_iff_mul_le (by decide)).mpr (by (first | lia | omega))
  have b : (lo + hi) / 2 < hi := (Nat.div_lt_iff_lt_mul (by decide)).mpr (by (first | lia | omega))
  generalize (lo + hi) / 2 = m at a b
  exact ⟨by (first | lia | omega), by (first | lia | omega), Nat.le_of_lt b⟩
theorem bis_loop {r4 : Option AV} (h : σ[id]? = some (.list xs)) (hl : xs.length ≤ 65000) (P : Place σ xs x pos) : ∀ (n lo hi fuel : Nat) (y : Option AV), hi - lo ≤ n → n < fuel → lo ≤ pos → pos ≤ hi → hi ≤ xs.length →
    ∃ y', whileGo (cmpT ltO (varE 2) (varE 3)) bisect_right_b1 skipS fuel [some (.ref id), some x, some (.int (lo : Nat)), some (.int (hi : Nat)), r4, y] σ = some (.next, [some (.ref id), some x, some (.int (pos : Nat)), some (.int (pos : Nat)), r4, y'], σ) := by
  intro n
  induction n with
  | zero => exact fun lo hi fuel y h1 h2 h3 h4 h5 => ⟨y, bis_stop h2 (by (first | lia | omega)) h3 h4⟩
  | succ n ih =>
    intro lo hi fuel y h1 h2 h3 h4 h5
    by_cases hlt : lo < hi
    · obtain ⟨m, rfl⟩ : ∃ m, fuel = m + 1 := ⟨fuel - 1, by (first | lia | omega)⟩
      have hb := bis_body (r4 := r4) (y := y) h hl P hlt h5
      have ht : cmpT ltO (varE 2) (varE 3) [some (.ref id), some x, some (.int (lo : Nat)), some (.int (hi : Nat)), r4, y] σ = some (true, σ) := bis_test.trans (by rw [decide_eq_true hlt])
      rw [while_true ht hb]
      obtain ⟨k1, k2, k3⟩ := half_lo h1 hlt
      by_cases hp : (lo + hi) / 2 < pos
      · rw [if_pos hp]
        exact ih ((lo + hi) / 2 + 1) hi m _ k1 (Nat.lt_of_succ_lt_succ h2) hp h4 h5
      · rw [if_neg hp]
        exact ih lo ((lo + hi) / 2) m _ k2 (Nat.lt_of_succ_lt_succ h2) h3 (Nat.le_of_not_lt hp) (Nat.le_trans k3 h5)
    · exact ⟨y, bis_stop (Nat.lt_of_le_of_lt (Nat.zero_le _) h2) hlt h3 h4⟩
theorem bisect_spec (h : σ[id]? = some (.list xs)) (hl : xs.length ≤ 65000) (P : Place σ xs x pos) : op_bisect_right_4 [.ref id, x, .int 0, .con .none] σ = some (.int (pos : Nat), σ) := by
  have l1 := lenO_list h (by (first | lia | omega))
  have s1 : ifS (cmpT ltO (varE 2) (valE (.int 0))) (seqS noneS skipS) skipS [some (.ref id), some x, some (.int ((0 : Nat) : Int)), some (.con .none), some (.con .none), none] σ = some (.next, [some (.ref id), some x, some (.int ((0 : Nat) : Int)), some (.con .none), some (.con .none), none], σ) := rfl
  have s2 : ifS (cmpT isO (varE 3) (valE (.con .none))) (seqS bisect_right_s1 skipS) skipS [some (.ref id), some x, some (.int ((0 : Nat) : Int)), some (.con .none), some (.con .none), none] σ =
      some (.next, [some (.ref id), some x, some (.int ((0 : Nat) : Int)), some (.int (xs.length : Nat)), some (.con .none), none], σ) := by
    have t1 : cmpT isO (varE 3) (valE (.con .none)) [some (.ref id), some x, some (.int ((0 : Nat) : Int)), some (.con .none), some (.con .none), none] σ = some (true, σ) := rfl
    simp only [ifS, t1, Option.bind_some, if_true, bisect_right_s1, seqS, skipS, asgS, callE, consEs, nilEs, varE, Fm.get, Fm.put, List.getD_cons_zero, List.set_cons_succ, List.set_cons_zero, Option.map_some, l1]
  obtain ⟨y', e⟩ := bis_loop (r4 := some (.con .none)) h hl P xs.length 0 xs.length 65536 none (by (first | lia | omega)) (by (first | lia | omega)) (by (first | lia | omega)) P.le (Nat.le_refl _)
  have s3 : ifS (cmpT isO (varE 4) (valE (.con .none))) (seqS (whileGo (cmpT ltO (varE 2) (varE 3)) bisect_right_b1 skipS 65536) skipS) (seqS (whileGo (cmpT ltO (varE 2) (varE 3)) bisect_right_b2 skipS 65536) skipS) [some (.ref id), some x, some (.int ((0 : Nat) : Int)), some (.int (xs.length : Nat)), some (.con .none), none] σ =
      some (.next, [some (.ref id), some x, some (.int (pos : Nat)), some (.int (pos : Nat)), some (.con .none), y'], σ) := by
    have t1 : cmpT isO (varE 4) (valE (.con .none)) [some (.ref id), some x, some (.int ((0 : Nat) : Int)), some (.int (xs.length : Nat)), some (.con .none), none] σ = some (true, σ) := rfl
    unfold ifS
    rw [t1, Option.bind_some]
    dsimp only
    rw [if_pos rfl, seq_next e]
    rfl
  have s4 : bisect_right_s8 [some (.ref id), some x, some (.int (pos : Nat)), some (.int (pos : Nat)), some (.con .none), y'] σ = some (.ret (.int (pos : Nat)), [some (.ref id), some x, some (.int (pos : Nat)), some (.int (pos : Nat)), some (.con .none), y'], σ) := rfl
  have hF : bisect_right_F [some (.ref id), some x, some (.int ((0 : Nat) : Int)), some (.con .none), some (.con .none), none] σ = some (.ret (.int (pos : Nat)), [some (.ref id), some x, some (.int (pos : Nat)), some (.int (pos : Nat)), some (.con .none), y'], σ) := by
    unfold bisect_right_F
    rw [seq_next s1, seq_next s2, seq_next s3, seq_ret s4]
  exact callF_of (nl := 1) (as := [.ref id, x, .int 0, .con .none, .con .none]) rfl hF
theorem insO_list {x : AV} (h : σ[id]? = some (.list xs)) (hl : xs.length ≤ 65000) (hp : pos ≤ xs.length) : insO (.ref id) [.int (pos : Nat), x] σ = some (.con .none, σ.set id (.list (insL xs pos x))) := by
  unfold insO
  dsimp only
  rw [h]
  dsimp only
  rw [if_pos ⟨by (first | lia | omega), by (first | lia | omega), by (first | lia | omega)⟩, Int.toNat_natCast]
theorem insort_spec (h : σ[id]? = some (.list xs)) (hl : xs.length ≤ 65000) (P : Place σ xs x pos) : op_insort_right_2 [.ref id, x] σ = some (.con .none, σ.set id (.list (insL xs pos x))) := by
  have s1 : ifS (cmpT isO (varE 4) (valE (.con .none))) (seqS insort_right_s1 skipS) (seqS insort_right_s2 skipS) [some (.ref id), some x, some (.int 0), some (.con .none), some (.con .none)] σ =
      some (.next, [some (.ref id), some x, some (.int (pos : Nat)), some (.con .none), some (.con .none)], σ) := by
    have t1 : cmpT isO (varE 4) (valE (.con .none)) [some (.ref id), some x, some (.int 0), some (.con .none), some (.con .none)] σ = some (true, σ) := rfl
    simp only [ifS, t1, Option.bind_some, if_true, insort_right_s1, seqS, skipS, asgS, callE, consEs, nilEs, varE, Fm.get, Fm.put, List.getD_cons_zero, List.getD_cons_succ, List.set_cons_succ, List.set_cons_zero, Option.map_some, bisect_spec h hl P]
  have s2 : insort_right_s3 [some (.ref id), some x, some (.int (pos : Nat)), some (.con .none), some (.con .none)] σ = some (.next, [some (.ref id), some x, some (.int (pos : Nat)), some (.con .none), some (.con .none)], σ.set id (.list (insL xs pos x))) := by
    have ok : okL (.ref id) σ = true := by unfold okL; dsimp only; rw [h]
    simp only [insort_right_s3, exprS, methO, consEs, nilEs, varE, Fm.get, List.getD_cons_zero, List.getD_cons_succ, Option.map_some, Option.bind_some, ok, if_true, insO_list h hl P.le]
  have hF : insort_right_F [some (.ref id), some x, some (.int 0), some (.con .none), some (.con .none)] σ = some (.next, [some (.ref id), some x, some (.int (pos : Nat)), some (.con .none), some (.con .none)], σ.set id (.list (insL xs pos x))) := by
    unfold insort_right_F
    rw [seq_next s1, seq_next s2]
    rfl
  show (insort_right_F [some (.ref id), some x, some (.int 0), some (.con .none), some (.con .none)] σ).bind _ = _
  rw [hF]
  rfl
end
end Mine
end
section
set_option maxRecDepth 100000
namespace Mine
/-! rows in order -/
noncomputable def ltR : List Nat → List Nat → Bool
  | [], [] => false
  | [], _ :: _ => true
  | _ :: _, [] => false
  | x :: xs, y :: ys => if x = y then ltR xs ys else decide (x < y)
theorem ltL_cast : ∀ (a b : List Nat), ltL (a.map fun (n : Nat) => (n : Int)) (b.map fun (n : Nat) => (n : Int)) = ltR a b
  | [], [] => rfl
  | [], _ :: _ => rfl
  | _ :: _, [] => rfl
  | x :: xs, y :: ys => by
    show (if (x : Int) = (y : Int) then ltL (xs.map _) (ys.map _) else decide ((x : Int) < y)) = if x = y then ltR xs ys else decide (x < y)
    rw [ltL_cast xs ys]
    by_cases h : x = y
    · rw [if_pos h, if_pos (by omega)]
    · rw [if_neg h, if_neg (by omega)]
      exact decide_eq_decide.mpr (by omega)
theorem ltR_irrefl : ∀ a, ltR a a = false
  | [] => rfl
  | x :: xs => by
    show (if x = x then ltR xs xs else _) = false
    rw [if_pos rfl, ltR_irrefl xs]
theorem ltR_trans : ∀ {a b c}, ltR a b = true → ltR b c = true → ltR a c = true
  | [], [], _, h, _ => by cases h
  | [], _ :: _, [], _, h => by cases h
  | [], _ :: _, _ :: _, _, _ => rfl
  | _ :: _, [], _, h, _ => by cases h
  | _ :: _, _ :: _, [], _, h => by cases h
  | x :: xs, y :: ys, z :: zs, h1, h2 => by
    have h1' : (if x = y then ltR xs ys else decide (x < y)) = true := h1
    have h2' : (if y = z then ltR ys zs else decide (y < z)) = true := h2
    show (if x = z then ltR xs zs else decide (x < z)) = true
    by_cases e1 : x = y
    · rw [if_pos e1] at h1'
      by_cases e2 : y = z
      · rw [if_pos e2] at h2'
        rw [if_pos (e1.trans e2)]
        exact ltR_trans h1' h2'
      · rw [if_neg e2] at h2'
        rw [if_neg (by omega)]
        have := of_decide_eq_true h2'
        exact decide_eq_true (by omega)
    · rw [if_neg e1] at h1'
      have a1 := of_decide_eq_true h1'
      by_cases e2 : y = z
      · rw [if_neg (by omega)]
        exact decide_eq_true (by omega)
      · rw [if_neg e2] at h2'
        have := of_decide_eq_true h2'
        rw [if_neg (by omega)]
        exact decide_eq_true (by omega)
theorem ltR_total : ∀ {a b}, ltR a b = false → ltR b a = false → a = b
  | [], [], _, _ => rfl
  | [], _ :: _, h, _ => by cases h
  | _ :: _, [], _, h => by cases h
  | x :: xs, y :: ys, h1, h2 => by
    have h1' : (if x = y then ltR xs ys else decide (x < y)) = false := h1
    have h2' : (if y = x then ltR ys xs else decide (y < x)) = false := h2
    by_cases e : x = y
    · rw [if_pos e] at h1'
      rw [if_pos e.symm] at h2'
      rw [e, ltR_total h1' h2']
    · rw [if_neg e] at h1'
      rw [if_neg (fun h => e h.symm)] at h2'
      have := of_decide_eq_false h1'
      have := of_decide_eq_false h2'
      (first | lia | omega)
noncomputable abbrev SortedR (l : List (List Nat)) : Prop := l.Pairwise fun a b => ltR a b = true
noncomputable def insR (x : List Nat) : List (List Nat) → List (List Nat)
  | [] => [x]
  | a :: as => if ltR x a = true then x :: a :: as else a :: insR x as
noncomputable def posR (x : List Nat) : List (List Nat) → Nat
  | [] => 0
  | a :: as => if ltR x a = true then 0 else posR x as + 1
theorem mem_insR {x y : List Nat} : ∀ {l : List (List Nat)}, y ∈ insR x l ↔ y = x ∨ y ∈ l
  | [] => by simp [insR]
  | a :: as => by
    unfold insR
    split
    · simp
    · rw [List.mem_cons, mem_insR, List.mem_cons]
      constructor
      · rintro (h | h | h)
        · exact .inr (.inl h)
        · exact .inl h
        · exact .inr (.inr h)
      · rintro (h | h | h)
        · exact .inr (.inl h)
        · exact .inl h
        · exact .inr (.inr h)
theorem sorted_insR {x : List Nat} : ∀ {l : List (List Nat)}, SortedR l → x ∉ l → SortedR (insR x l)
  | [], _, _ => List.pairwise_singleton ..
  | a :: as, h, hx => by
    obtain ⟨h1, h2⟩ := List.pairwise_cons.mp h
    unfold insR
    split
    · rename_i hlt
      refine List.pairwise_cons.mpr ⟨fun b hb => ?_, h⟩
      rcases List.mem_cons.mp hb with rfl | hb
      · exact hlt
      · exact ltR_trans hlt (h1 b hb)
    · rename_i hlt
      have hlt : ltR x a = false := by simpa using hlt
      refine List.pairwise_cons.mpr ⟨fun b hb => ?_, sorted_insR h2 fun h => hx (List.mem_cons_of_mem _ h)⟩
      rcases mem_insR.mp hb with rfl | hb
      · cases hc : ltR a b with
        | true => rfl
        | false => exact absurd (ltR_total hlt hc) fun e => hx (e ▸ List.mem_cons_self ..)
      · exact h1 b hb
theorem sorted_ext : ∀ {l m : List (List Nat)}, SortedR l → SortedR m → (∀ y, y ∈ l ↔ y ∈ m) → l = m
  | [], [], _, _, _ => rfl
  | [], b :: m, _, _, h => absurd ((h b).mpr (List.mem_cons_self ..)) (by simp)
  | a :: l, [], _, _, h => absurd ((h a).mp (List.mem_cons_self ..)) (by simp)
  | a :: l, b :: m, hl, hm, h => by
    obtain ⟨h1, h2⟩ := List.pairwise_cons.mp hl
    obtain ⟨g1, g2⟩ := List.pairwise_cons.mp hm
    have hab : a = b := by
      rcases List.mem_cons.mp ((h a).mp (List.mem_cons_self ..)) with e | ha
      · exact e
      · rcases List.mem_cons.mp ((h b).mpr (List.mem_cons_self ..)) with e | hb
        · exact e.symm
        · have := ltR_trans (h1 b hb) (g1 a ha)
          rw [ltR_irrefl] at this
          cases this
    subst hab
    have notl : ∀ {x : List Nat} {t : List (List Nat)}, (∀ b ∈ t, ltR x b = true) → x ∉ t := fun hx hm => by
      have := hx _ hm
      rw [ltR_irrefl] at this
      cases this
    rw [sorted_ext h2 g2 fun y => ?_]
    constructor
    · intro hy
      rcases List.mem_cons.mp ((h y).mp (List.mem_cons_of_mem _ hy)) with rfl | h'
      · exact absurd hy (notl h1)
      · exact h'
    · intro hy
      rcases List.mem_cons.mp ((h y).mpr (List.mem_cons_of_mem _ hy)) with rfl | h'
      · exact absurd hy (notl g1)
      · exact h'
/-! rows as tuples -/
noncomputable abbrev tupR (r : List Nat) : AV := .tup (avN r)
theorem lt_rows (a b : List Nat) (σ : St) : ltO (tupR a) (tupR b) σ = some (.bool (ltR a b), σ) := by
  unfold ltO
  dsimp only
  rw [intsOf_avN, intsOf_avN]
  dsimp only
  rw [ltL_cast]
theorem place_rows {σ : St} {x : List Nat} : ∀ {l : List (List Nat)}, SortedR l → Place σ (l.map tupR) (tupR x) (posR x l)
  | [], _ => ⟨Nat.zero_le _, fun i a h => by simp at h, fun i a h => by simp at h⟩
  | b :: l, h => by
    obtain ⟨h1, h2⟩ := List.pairwise_cons.mp h
    have ih := place_rows (σ := σ) (x := x) h2
    by_cases hlt : ltR x b = true
    · have e : posR x (b :: l) = 0 := if_pos hlt
      rw [e]
      refine ⟨Nat.zero_le _, fun i a _ hi => absurd hi (Nat.not_lt_zero _), fun i a ha _ => ?_⟩
      obtain ⟨r, hr, rfl⟩ := List.mem_map.mp (List.mem_of_getElem? ha)
      rw [lt_rows]
      rcases List.mem_cons.mp hr with rfl | hr
      · rw [hlt]
      · rw [ltR_trans hlt (h1 r hr)]
    · have e : posR x (b :: l) = posR x l + 1 := if_neg hlt
      have hlt' : ltR x b = false := by simpa using hlt
      rw [e]
      refine ⟨by have := ih.le; simp at this ⊢; (first | lia | omega), fun i a ha hi => ?_, fun i a ha hi => ?_⟩
      · cases i with
        | zero =>
          simp at ha
          rw [← ha, lt_rows, hlt']
        | succ i => exact ih.lo i a (by simpa using ha) (by (first | lia | omega))
      · cases i with
        | zero => (first | lia | omega)
        | succ i => exact ih.hi i a (by simpa using ha) (by (first | lia | omega))
theorem insL_rows {x : List Nat} : ∀ {l : List (List Nat)}, insL (l.map tupR) (posR x l) (tupR x) = (insR x l).map tupR
  | [] => rfl
  | b :: l => by
    unfold insR posR
    split
    · rfl
    · have ih := insL_rows (x := x) (l := l)
      show tupR b :: insL (l.map tupR) (posR x l) (tupR x) = tupR b :: (insR x l).map tupR
      rw [ih]
theorem insort_rows {σ : St} {id : Nat} {x : List Nat} {l : List (List Nat)} (h : σ[id]? = some (.list (l.map tupR))) (hl : l.length ≤ 65000) (hs : SortedR l) : op_insort_right_2 [.ref id, tupR x] σ = some (.con .none, σ.set id (.list ((insR x l).map tupR))) := by
  rw [insort_spec h (by simpa using hl) (place_rows hs), insL_rows]
end Mine
end
section
set_option maxRecDepth 100000
namespace Mine
/-! comprehensions that leave the state as it is, over lists, ranges, enumerations -/
section
variable {α : Type} {ef : EF} {ts : TF} {cap : List (Option Nat)} {ρ : Fm} {cs : List (Option AV)} {σ σ1 : St} {N : Nat} (emb res : α → AV) (P : α → Bool)
/-- what a step is to show -/
noncomputable abbrev StepOK (cs : List (Option AV)) (ts : TF) (ef : EF) (σ : St) (a : AV) (p : Bool) (r : AV) : Prop := ts (some a :: cs) σ = some (p, σ) ∧ (p = true → ef (some a :: cs) σ = some (r, σ))
theorem compGo_pick {tt : Bool} {tf : AF} {it : It} {l : List α} (Fr : Fm → Prop) (hy : Yields tt (fun s => s = σ) it (l.map emb)) (hl : l.length < N) (hF : Fr ρ)
    (step : ∀ a ∈ l, ∀ ρ, Fr ρ → ∃ ρ1, Fr ρ1 ∧ tf (emb a) ρ σ = some (ρ1, σ) ∧ ts ρ1 σ = some (P a, σ) ∧ (P a = true → ef ρ1 σ = some (res a, σ))) :
    compGo tt tf ts ef N it ρ σ = some ((l.filter P).map res, σ) := by
  induction l generalizing N it ρ with
  | nil =>
    obtain ⟨m, rfl⟩ : ∃ m, N = m + 1 := ⟨N - 1, by simp at hl; (first | lia | omega)⟩
    show (if tgtB tt it = true then (itNext it σ).bind _ else none) = _
    rw [if_pos hy.1, hy.2 σ rfl]
    rfl
  | cons a as ih =>
    obtain ⟨m, rfl⟩ : ∃ m, N = m + 1 := ⟨N - 1, by simp at hl; (first | lia | omega)⟩
    obtain ⟨h1, it', h2, h3⟩ := hy
    obtain ⟨ρ1, hr1, e1, e2, e3⟩ := step a (List.mem_cons_self ..) ρ hF
    have ih' := ih (N := m) h3 (by simp at hl; (first | lia | omega)) hr1 fun b hb => step b (List.mem_cons_of_mem _ hb)
    show (if tgtB tt it = true then (itNext it σ).bind _ else none) = _
    rw [if_pos h1, h2 σ rfl]
    show (tf (emb a) ρ σ).bind _ = _
    rw [e1, Option.bind_some, e2, Option.bind_some, List.filter_cons]
    dsimp only
    by_cases hp : P a = true
    · rw [if_pos hp, if_pos hp, e3 hp, Option.bind_some, ih']
      rfl
    · rw [if_neg hp, if_neg hp, ih']
theorem compE_seq {f : EF} {id : Nat} {l : List α} (hf : f ρ σ = some (.ref id, σ1)) (hx : σ1[id]? = some (.list (l.map emb))) (hl : l.length < N) (hc : capρ cap ρ = none :: cs)
    (h : ∀ a ∈ l, StepOK cs ts ef σ1 (emb a) (P a) (res a)) : compE false N cap (seqI f) (nameA 0) ts ef ρ σ = some (.ref σ1.length, σ1 ++ [.list ((l.filter P).map res)]) := by
  have hy : Yields false (fun s => s = σ1) (.list id 0) ((l.map emb).drop 0) := yields_list (fun s hs => by rw [hs]; exact hx) _ 0 (Nat.add_zero _)
  rw [List.drop_zero] at hy
  have hs : seqI f ρ σ = some (.list id 0, σ1) := by
    unfold seqI
    rw [hf, Option.bind_some]
    dsimp only
    rw [hx]
  unfold compE
  rw [hs, Option.bind_some, hc]
  dsimp only
  rw [compGo_pick emb res P (fun ρ => ∃ x, ρ = x :: cs) hy hl ⟨none, rfl⟩ fun a ha ρ hr => by
    obtain ⟨x, rfl⟩ := hr
    exact ⟨some (emb a) :: cs, ⟨_, rfl⟩, rfl, h a ha⟩]
  rfl
theorem enumV_map (l : List α) (k : Nat) : enumV k (l.map emb) = (l.zipIdx k).map fun p => .tup [.int (p.2 : Nat), emb p.1] := by
  induction l generalizing k with
  | nil => rfl
  | cons a l ih => rw [List.map_cons, enumV, ih, List.zipIdx_cons, List.map_cons]
end
section
variable {ef : EF} {ts : TF} {cap : List (Option Nat)} {ρ : Fm} {cs : List (Option AV)} {σ σ1 : St} {N : Nat}
theorem rngVals_nat (k : Nat) : rngVals 0 1 k = avN (List.range k) := by
  rw [rngVals_eq]
  apply List.map_congr_left
  intro i _
  show AV.int _ = AV.int _
  congr 1
  (first | lia | omega)
theorem compE_rng {fr : IF} {b : Nat} (res : Nat → AV) (P : Nat → Bool) (hf : fr ρ σ = some (.range 0 1 b, σ1)) (hl : b < N) (hc : capρ cap ρ = none :: cs)
    (h : ∀ a, a < b → StepOK cs ts ef σ1 (.int (a : Nat)) (P a) (res a)) : compE false N cap fr (nameA 0) ts ef ρ σ = some (.ref σ1.length, σ1 ++ [.list (((List.range b).filter P).map res)]) := by
  have hy : Yields false (fun s => s = σ1) (.range 0 1 b) (rngVals 0 1 b) := yields_range b 0 1
  rw [rngVals_nat] at hy
  unfold compE
  rw [hf, Option.bind_some, hc]
  dsimp only
  rw [compGo_pick (fun (n : Nat) => AV.int (n : Int)) res P (fun ρ => ∃ x, ρ = x :: cs) hy (by rw [List.length_range]; exact hl) ⟨none, rfl⟩ fun a ha ρ hr => by
    obtain ⟨x, rfl⟩ := hr
    exact ⟨some (.int a) :: cs, ⟨_, rfl⟩, rfl, h a (List.mem_range.mp ha)⟩]
  rfl
noncomputable abbrev pairA : AF := tupA 2 (consA (nameA 0) (consA (nameA 1) nilA))
theorem compE_enum {α : Type} (emb : α → AV) (res : α × Nat → AV) (P : α × Nat → Bool) {fs : EFs} {id : Nat} {l : List α} (hf : fs ρ σ = some ([.ref id], σ1)) (hx : σ1[id]? = some (.list (l.map emb))) (hl : l.length < N) (hc : capρ cap ρ = none :: none :: cs)
    (h : ∀ p ∈ l.zipIdx, StepOK (some (emb p.1) :: cs) ts ef σ1 (.int (p.2 : Nat)) (P p) (res p)) : compE true N cap (enumI fs) pairA ts ef ρ σ = some (.ref σ1.length, σ1 ++ [.list ((l.zipIdx.filter P).map res)]) := by
  have hy : Yields true (fun s => s = σ1) (.enumL id 0) (enumV 0 ((l.map emb).drop 0)) := yields_enum (fun s hs => by rw [hs]; exact hx) _ 0 (Nat.add_zero _)
  rw [List.drop_zero, enumV_map] at hy
  have hs : enumI fs ρ σ = some (.enumL id 0, σ1) := by
    unfold enumI
    rw [hf, Option.bind_some]
    dsimp only
    rw [hx]
  unfold compE
  rw [hs, Option.bind_some, hc]
  dsimp only
  rw [compGo_pick (fun (p : α × Nat) => AV.tup [.int (p.2 : Nat), emb p.1]) res P (fun ρ => ∃ x y, ρ = x :: y :: cs) hy (by rw [List.length_zipIdx]; exact hl) ⟨none, none, rfl⟩ fun a ha ρ hr => by
    obtain ⟨x, y, rfl⟩ := hr
    exact ⟨some (.int (a.2 : Nat)) :: some (emb a.1) :: cs, ⟨_, _, rfl⟩, rfl, h a ha⟩]
  rfl
theorem yields_bytes {P : St → Prop} {b : List Nat} : ∀ (n i : Nat), n + i = b.length → Yields true P (.enumB b i) (((b.drop i).zipIdx i).map fun p => AV.tup [.int (p.2 : Nat), .int (p.1 : Nat)])
  | 0, i, h => by
    rw [List.drop_eq_nil_of_le (by (first | lia | omega))]
    refine ⟨rfl, fun σ hσ => ?_⟩
    show (match b[i]? with | some x => some (some (AV.tup [.int i, .int x], It.enumB b (i + 1))) | none => some none) = _
    rw [List.getElem?_eq_none (by (first | lia | omega))]
  | n + 1, i, h => by
    have hi : i < b.length := by (first | lia | omega)
    rw [List.drop_eq_getElem_cons hi, List.zipIdx_cons, List.map_cons]
    refine ⟨rfl, .enumB b (i + 1), fun σ hσ => ?_, yields_bytes n (i + 1) (by (first | lia | omega))⟩
    show (match b[i]? with | some x => some (some (AV.tup [.int i, .int x], It.enumB b (i + 1))) | none => some none) = _
    rw [List.getElem?_eq_getElem hi]
theorem compE_enumB (res : Nat × Nat → AV) (P : Nat × Nat → Bool) {fs : EFs} {b : List Nat} (hf : fs ρ σ = some ([.bytes b], σ1)) (hl : b.length < N) (hc : capρ cap ρ = none :: none :: cs)
    (h : ∀ p ∈ b.zipIdx, StepOK (some (.int (p.1 : Nat)) :: cs) ts ef σ1 (.int (p.2 : Nat)) (P p) (res p)) : compE true N cap (enumI fs) pairA ts ef ρ σ = some (.ref σ1.length, σ1 ++ [.list ((b.zipIdx.filter P).map res)]) := by
  have hy : Yields true (fun s => s = σ1) (.enumB b 0) (((b.drop 0).zipIdx 0).map fun p => AV.tup [.int (p.2 : Nat), .int (p.1 : Nat)]) := yields_bytes _ 0 (Nat.add_zero _)
  rw [List.drop_zero] at hy
  have hs : enumI fs ρ σ = some (.enumB b 0, σ1) := by
    unfold enumI
    rw [hf, Option.bind_some]
  unfold compE
  rw [hs, Option.bind_some, hc]
  dsimp only
  rw [compGo_pick (fun (p : Nat × Nat) => AV.tup [.int (p.2 : Nat), .int (p.1 : Nat)]) res P (fun ρ => ∃ x y, ρ = x :: y :: cs) hy (by rw [List.length_zipIdx]; exact hl) ⟨none, none, rfl⟩ fun a ha ρ hr => by
    obtain ⟨x, y, rfl⟩ := hr
    exact ⟨some (.int (a.2 : Nat)) :: some (.int (a.1 : Nat)) :: cs, ⟨_, _, rfl⟩, rfl, h a ha⟩]
  rfl
end
end Mine
end
section
set_option maxRecDepth 100000
namespace Mine
/-! frames about lists of lists, and about two lists -/
theorem addNew_app : ∀ {is K : List Nat}, (K ++ is).Nodup → addNew K is = K ++ is
  | [], K, _ => by rw [List.append_nil]; rfl
  | i :: is, K, h => by
    have hi : K.contains i = false := by
      have := (List.nodup_append.mp h).2.2
      rw [Bool.eq_false_iff]
      intro hc
      exact this i (by simpa using hc) i (List.mem_cons_self ..) rfl
    show addNew (if K.contains i = true then K else K ++ [i]) is = _
    rw [hi, if_neg (by decide), addNew_app (by rw [List.append_assoc]; exact h), List.append_assoc]
    rfl
theorem refsVs_refs : ∀ ks : List Nat, refsVs (ks.map .ref) = ks
  | [] => rfl
  | k :: ks => by
    show [k] ++ refsVs (ks.map .ref) = _
    rw [refsVs_refs]; rfl
theorem renVs_refs (f : Nat → Nat) : ∀ ks : List Nat, renVs f (ks.map .ref) = ks.map fun k => .ref (f k)
  | [] => rfl
  | k :: ks => by
    show AV.ref (f k) :: renVs f (ks.map .ref) = _
    rw [renVs_refs f ks]; rfl
theorem okVs_refs (p : Nat → Bool) : ∀ ks : List Nat, okVs p (ks.map .ref) = ks.all p
  | [] => rfl
  | k :: ks => by
    show (p k && okVs p (ks.map .ref)) = _
    rw [okVs_refs p ks]; rfl
noncomputable def refsFrom (a n : Nat) : List AV := (List.range n).map fun i => .ref (a + i)
theorem map_idx {ks : List Nat} (h : ks.Nodup) : (ks.map fun k => ks.idxOf k) = List.range ks.length := by
  apply List.ext_getElem?
  intro i
  rw [List.getElem?_map]
  by_cases hi : i < ks.length
  · rw [List.getElem?_range hi, List.getElem?_eq_getElem hi]
    show some (ks.idxOf ks[i]) = some i
    rw [idx_of_get h (List.getElem?_eq_getElem hi)]
  · rw [List.getElem?_eq_none (by (first | lia | omega)), List.getElem?_eq_none (by simpa using hi)]; rfl
theorem frame_any {op : CF} {as as' : List AV} {σ σ0 : St} {ids : List Nat} {r : AV} {σ1 : St} {av : AV} {τ : St} (hid : reach σ (refsVs as) = ids) (hn : ids.Nodup) (hlt : ∀ i ∈ ids, i < σ.length) (hok : okVs ids.contains as = true)
    (hoo : ∀ i ∈ ids, okO ids.contains (atO σ i) = true) (has : renVs (fun i => ids.idxOf i) as = as') (hσ0 : (ids.map fun i => renO (fun i => ids.idxOf i) (atO σ i)) = σ0) (h : op as' σ0 = some (r, σ1))
    (hk : ∀ (b : Nat → Nat) (p : Nat → Bool), (∀ j, j < ids.length → b j = ids.getD j 0) → (∀ j, j < ids.length → p j = true) → ∀ i ∈ ids, renO b (atO σ1 (ids.idxOf i)) = atO σ i ∧ okO p (atO σ1 (ids.idxOf i)) = true)
    (x : Adopts ids σ r σ1 av τ) : frameG op as σ = some (av, σ ++ τ) := by
  obtain ⟨K, e, k1, k2, k3, k4, k5, k6⟩ := x
  unfold frameG
  simp only [hid]
  rw [if_pos ⟨hn, List.all_eq_true.mpr fun i hi => decide_eq_true (hlt i hi), hok, List.all_eq_true.mpr hoo⟩, has, hσ0, h, Option.bind_some]
  dsimp only
  have hk' := hk (fun j => if j < ids.length then ids.getD j 0 else σ.length + K.idxOf j) (fun j => decide (j < ids.length) || K.contains j) (fun j hj => if_pos hj) (fun j hj => by simp [hj])
  have k0 : ((List.range ids.length).all fun k => okO (fun j => decide (j < ids.length) || K.contains j) (atO σ1 k)) = true := by
    rw [List.all_eq_true]
    intro k hkk
    have hlt := List.mem_range.mp hkk
    have := (hk' ids[k] (List.getElem_mem hlt)).2
    rwa [idx_of_get hn (List.getElem?_eq_getElem hlt)] at this
  rw [e, if_pos ⟨k1, k2, k3, k0, k4⟩, k5, k6]
  congr 2
  congr 1
  conv => rhs; rw [← range_atO σ]
  apply List.map_congr_left
  intro i _
  by_cases hc : ids.contains i = true
  · rw [if_pos hc, (hk' i (by simpa using hc)).1]
  · rw [if_neg hc]
/-- a list of lists as the answer -/
theorem adopt_rows {ids : List Nat} {σ : St} {j : Nat} {σ1 : St} {ks : List Nat} {c : Nat → List AV} (hj : ids.length ≤ j) (hn : (j :: ks).Nodup) (hk : ∀ k ∈ ks, ids.length ≤ k) (hx : σ1[j]? = some (.list (ks.map .ref)))
    (hc : ∀ k ∈ ks, σ1[k]? = some (.list (c k)) ∧ nrs (c k) = true) : Adopts ids σ (.ref j) σ1 (.ref σ.length) (.list (refsFrom (σ.length + 1) ks.length) :: ks.map fun k => .list (c k)) := by
  have hat := atO_eq hx
  have hlt : j < σ1.length := (List.getElem?_eq_some_iff.mp hx).1
  have hr : reach σ1 [j] = j :: ks := by
    unfold reach
    show addNew [j] ([j].flatMap fun i => refsO (atO σ1 i)) = _
    simp only [List.flatMap_cons, List.flatMap_nil, hat, refsO, refsVs_refs, List.append_nil]
    exact addNew_app (K := [j]) hn
  refine ⟨j :: ks, ?_, hn, ?_, ?_, ?_, ?_, ?_⟩
  · show (reach σ1 [j]).filter _ = _
    rw [hr, List.filter_eq_self]
    intro k hkk
    rcases List.mem_cons.mp hkk with rfl | h
    · simpa using hj
    · simpa using hk k h
  · rw [List.all_eq_true]
    intro k hkk
    rcases List.mem_cons.mp hkk with rfl | h
    · simp [hj, hlt]
    · have := (List.getElem?_eq_some_iff.mp (hc k h).1).1
      simp [hk k h, this]
  · show (decide (j < ids.length) || (j :: ks).contains j) = true
    simp
  · rw [List.all_eq_true]
    intro k hkk
    rcases List.mem_cons.mp hkk with rfl | h
    · rw [hat]
      show okVs _ (ks.map .ref) = true
      rw [okVs_refs, List.all_eq_true]
      intro k hk
      simp [hk]
    · rw [atO_eq (hc k h).1]
      exact nrs_ok (hc k h).2
  · show AV.ref _ = AV.ref (if j < ids.length then _ else σ.length + (j :: ks).idxOf j)
    rw [if_neg (by (first | lia | omega))]
    simp
  · rw [List.map_cons, hat]
    congr 1
    · show AO.list _ = AO.list (renVs _ (ks.map .ref))
      rw [renVs_refs]
      congr 1
      unfold refsFrom
      rw [← map_idx (List.nodup_cons.mp hn).2, List.map_map]
      apply List.map_congr_left
      intro k hkk
      show AV.ref (σ.length + 1 + ks.idxOf k) = AV.ref (if k < ids.length then _ else σ.length + (j :: ks).idxOf k)
      have hjk : (j == k) = false := by
        rw [beq_eq_false_iff_ne]
        intro he
        exact (List.nodup_cons.mp hn).1 (he ▸ hkk)
      rw [if_neg (by have := hk k hkk; (first | lia | omega)), List.idxOf_cons, hjk]
      congr 1
      simp
      (first | lia | omega)
    · apply List.map_congr_left
      intro k hkk
      rw [atO_eq (hc k hkk).1]
      show _ = AO.list (renVs _ (c k))
      rw [nrs_ren (hc k hkk).2]
/-- a list of lists among the arguments, that the call leaves as it is; a plain answer -/
theorem frame_rows {op : CF} {pre post : List AV} {s : Nat} {ks : List Nat} {c : Nat → List AV} {σ : St} {r : AV} {σ1 : St} (hp : nrs pre = true) (hq : nrs post = true) (hσ : σ[s]? = some (.list (ks.map .ref))) (hn : (s :: ks).Nodup)
    (hc : ∀ k ∈ ks, σ[k]? = some (.list (c k)) ∧ nrs (c k) = true) (h : op (pre ++ .ref 0 :: post) (.list (refsFrom 1 ks.length) :: ks.map fun k => .list (c k)) = some (r, σ1))
    (h0 : ∀ i, i < ks.length + 1 → σ1[i]? = (AO.list (refsFrom 1 ks.length) :: ks.map fun k => .list (c k))[i]?) (hr : nr r = true) : frameG op (pre ++ .ref s :: post) σ = some (r, σ) := by
  have hat := atO_eq hσ
  have hlt : s < σ.length := (List.getElem?_eq_some_iff.mp hσ).1
  have hks := (List.nodup_cons.mp hn).2
  have hsn := (List.nodup_cons.mp hn).1
  have ix : ∀ k ∈ ks, (s :: ks).idxOf k = 1 + ks.idxOf k := by
    intro k hk
    have : (s == k) = false := by
      rw [beq_eq_false_iff_ne]
      intro he
      exact hsn (he ▸ hk)
    rw [List.idxOf_cons, this]
    simp
    (first | lia | omega)
  have ir : (ks.map fun k => AV.ref ((s :: ks).idxOf k)) = refsFrom 1 ks.length := by
    unfold refsFrom
    rw [← map_idx hks, List.map_map]
    apply List.map_congr_left
    intro k hk
    show AV.ref _ = AV.ref (1 + ks.idxOf k)
    rw [ix k hk]
  have i0 : (s :: ks).idxOf s = 0 := by simp
  have hre : refsVs (pre ++ .ref s :: post) = [s] := by
    rw [refsVs_append, nrs_refs hp]
    show [s] ++ refsVs post = _
    rw [nrs_refs hq]; rfl
  have hid : reach σ (refsVs (pre ++ .ref s :: post)) = s :: ks := by
    rw [hre]
    unfold reach
    show addNew [s] ([s].flatMap fun i => refsO (atO σ i)) = _
    simp only [List.flatMap_cons, List.flatMap_nil, hat, refsO, refsVs_refs, List.append_nil]
    exact addNew_app (K := [s]) hn
  have has : renVs (fun i => (s :: ks).idxOf i) (pre ++ .ref s :: post) = pre ++ .ref 0 :: post := by
    rw [renVs_append, nrs_ren hp]
    show pre ++ AV.ref ((s :: ks).idxOf s) :: renVs _ post = _
    rw [nrs_ren hq, i0]
  have hs0 : ((s :: ks).map fun i => renO (fun i => (s :: ks).idxOf i) (atO σ i)) = .list (refsFrom 1 ks.length) :: ks.map fun k => .list (c k) := by
    rw [List.map_cons, hat]
    congr 1
    · show AO.list (renVs _ (ks.map .ref)) = _
      rw [renVs_refs, ir]
    · apply List.map_congr_left
      intro k hk
      rw [atO_eq (hc k hk).1]
      show AO.list (renVs _ (c k)) = _
      rw [nrs_ren (hc k hk).2]
  have := frame_any (τ := []) hid hn (fun i hi => ?_) ?_ (fun i hi => ?_) has hs0 h (fun b p hb hpp i hi => ?_) (adopt_none hr)
  · rwa [List.append_nil] at this
  · rcases List.mem_cons.mp hi with rfl | h
    · exact hlt
    · exact (List.getElem?_eq_some_iff.mp (hc i h).1).1
  · rw [okVs_append, nrs_ok hp]
    show (true && ((s :: ks).contains s && okVs _ post)) = true
    rw [nrs_ok hq]
    simp
  · rcases List.mem_cons.mp hi with rfl | h
    · rw [hat]
      show okVs _ (ks.map .ref) = true
      rw [okVs_refs, List.all_eq_true]
      intro k hk
      simp [hk]
    · rw [atO_eq (hc i h).1]
      exact nrs_ok (hc i h).2
  · rcases List.mem_cons.mp hi with rfl | h
    · rw [i0, atO_eq ((h0 0 (by (first | lia | omega))).trans rfl), hat]
      have e1 : ∀ f : Nat → Nat, renVs f (refsFrom 1 ks.length) = (List.range ks.length).map fun j => AV.ref (f (1 + j)) := by
        intro f
        have : refsFrom 1 ks.length = ((List.range ks.length).map fun j => 1 + j).map .ref := by unfold refsFrom; rw [List.map_map]; rfl
        rw [this, renVs_refs, List.map_map]
        rfl
      refine ⟨?_, ?_⟩
      · show AO.list (renVs b _) = AO.list _
        rw [e1]
        congr 1
        apply List.ext_getElem?
        intro j
        rw [List.getElem?_map, List.getElem?_map]
        by_cases hj : j < ks.length
        · rw [List.getElem?_range hj, List.getElem?_eq_getElem hj]
          show some (AV.ref (b (1 + j))) = some (AV.ref ks[j])
          rw [hb _ (by simp; (first | lia | omega)), List.getD_eq_getElem?_getD, Nat.add_comm 1 j, List.getElem?_cons_succ, List.getElem?_eq_getElem hj]
          rfl
        · rw [List.getElem?_eq_none (by simpa using hj), List.getElem?_eq_none (by (first | lia | omega))]; rfl
      · show okVs p (refsFrom 1 ks.length) = true
        have : refsFrom 1 ks.length = ((List.range ks.length).map fun j => 1 + j).map .ref := by unfold refsFrom; rw [List.map_map]; rfl
        rw [this, okVs_refs, List.all_eq_true]
        intro j hj
        obtain ⟨q, hq, rfl⟩ := List.mem_map.mp hj
        have := List.mem_range.mp hq
        exact hpp _ (by simp; (first | lia | omega))
    · have hil : ks.idxOf i < ks.length := List.idxOf_lt_length_of_mem h
      have e : σ1[(s :: ks).idxOf i]? = some (.list (c i)) := by
        rw [ix i h, h0 _ (by (first | lia | omega)), Nat.add_comm, List.getElem?_cons_succ, List.getElem?_map, idx_get h]
        rfl
      rw [atO_eq e, atO_eq (hc i h).1]
      exact ⟨by show AO.list (renVs b (c i)) = _; rw [nrs_ren (hc i h).2], nrs_ok (hc i h).2⟩
/-- two lists among the arguments -/
theorem frame_two {op : CF} {x : AV} {d t : Nat} {xs ys : List AV} {σ : St} {r : AV} {σ1 : St} {av : AV} {τ : St} (hx : nr x = true) (hd : σ[d]? = some (.list xs)) (ht : σ[t]? = some (.list ys)) (hdt : d ≠ t) (h1 : nrs xs = true) (h2 : nrs ys = true)
    (h : op [x, .ref 0, .ref 1] [.list xs, .list ys] = some (r, σ1)) (h00 : σ1[0]? = some (.list xs)) (h01 : σ1[1]? = some (.list ys)) (a : Adopts [d, t] σ r σ1 av τ) : frameG op [x, .ref d, .ref t] σ = some (av, σ ++ τ) := by
  have ha := atO_eq hd
  have hb := atO_eq ht
  have l1 : d < σ.length := (List.getElem?_eq_some_iff.mp hd).1
  have l2 : t < σ.length := (List.getElem?_eq_some_iff.mp ht).1
  have hn : [d, t].Nodup := by simp [hdt]
  have hid : reach σ (refsVs [x, .ref d, .ref t]) = [d, t] := by
    have : refsVs [x, .ref d, .ref t] = [d, t] := by
      show refsV x ++ _ = _
      rw [nr_refs hx]; rfl
    rw [this]
    unfold reach
    have e : addNew [] [d, t] = [d, t] := addNew_app (K := []) hn
    rw [e]
    simp only [List.flatMap_cons, List.flatMap_nil, ha, hb, refsO, nrs_refs h1, nrs_refs h2]
    rfl
  have id0 : [d, t].idxOf d = 0 := by simp
  have id1 : [d, t].idxOf t = 1 := by
    have : (d == t) = false := by simpa using hdt
    simp [List.idxOf_cons, this]
  refine frame_any hid hn (fun i hi => ?_) ?_ (fun i hi => ?_) (as' := [x, .ref 0, .ref 1]) ?_ (σ0 := [.list xs, .list ys]) ?_ h (fun b p hb' hp i hi => ?_) a
  · rcases List.mem_cons.mp hi with rfl | h
    · exact l1
    · have := List.mem_singleton.mp h; subst this; exact l2
  · show (okV _ x && _) = true
    rw [nr_ok hx]
    show (true && ([d, t].contains d && ([d, t].contains t && true))) = true
    simp
  · rcases List.mem_cons.mp hi with rfl | h
    · rw [ha]; exact nrs_ok h1
    · have := List.mem_singleton.mp h; subst this; rw [hb]; exact nrs_ok h2
  · show renV _ x :: AV.ref ([d, t].idxOf d) :: AV.ref ([d, t].idxOf t) :: [] = _
    rw [nr_ren hx, id0, id1]
  · rw [List.map_cons, List.map_cons, List.map_nil, ha, hb]
    show [AO.list (renVs _ xs), AO.list (renVs _ ys)] = _
    rw [nrs_ren h1, nrs_ren h2]
  · rcases List.mem_cons.mp hi with rfl | h
    · rw [id0, atO_eq h00, ha]
      exact ⟨by show AO.list (renVs b xs) = _; rw [nrs_ren h1], nrs_ok h1⟩
    · have := List.mem_singleton.mp h; subst this
      rw [id1, atO_eq h01, hb]
      exact ⟨by show AO.list (renVs b ys) = _; rw [nrs_ren h2], nrs_ok h2⟩
end Mine
end
section
set_option maxRecDepth 100000
namespace Mine
section
variable {α : Type} {ef : EF} {cap : List (Option Nat)} {ρ : Fm} {cs : List (Option AV)} {σ σ1 : St} {N : Nat}
theorem pick_all {β : Type} (l : List β) : (l.filter fun _ => true) = l := by rw [List.filter_eq_self]; intros; rfl
theorem compE_seqM (emb res : α → AV) {f : EF} {id : Nat} {l : List α} (hf : f ρ σ = some (.ref id, σ1)) (hx : σ1[id]? = some (.list (l.map emb))) (hl : l.length < N) (hc : capρ cap ρ = none :: cs)
    (h : ∀ a ∈ l, ef (some (emb a) :: cs) σ1 = some (res a, σ1)) : compE false N cap (seqI f) (nameA 0) trueT ef ρ σ = some (.ref σ1.length, σ1 ++ [.list (l.map res)]) := by
  have := compE_seq (ts := trueT) (ef := ef) emb res (fun _ => true) hf hx hl hc fun a ha => ⟨rfl, fun _ => h a ha⟩
  rwa [pick_all] at this
theorem compE_rngM (res : Nat → AV) {fr : IF} {b : Nat} (hf : fr ρ σ = some (.range 0 1 b, σ1)) (hl : b < N) (hc : capρ cap ρ = none :: cs)
    (h : ∀ a, a < b → ef (some (.int (a : Nat)) :: cs) σ1 = some (res a, σ1)) : compE false N cap fr (nameA 0) trueT ef ρ σ = some (.ref σ1.length, σ1 ++ [.list ((List.range b).map res)]) := by
  have := compE_rng (ts := trueT) (ef := ef) res (fun _ => true) hf hl hc fun a ha => ⟨rfl, fun _ => h a ha⟩
  rwa [pick_all] at this
end
/-! the sizes, the chosen places -/
noncomputable def SizeOK (n : Nat) : Prop := n = 7 ∨ n = 13 ∨ n = 21 ∨ n = 31
theorem SizeOK.le {n : Nat} (h : SizeOK n) : 7 ≤ n ∧ n ≤ 31 := by rcases h with rfl | rfl | rfl | rfl <;> (first | lia | omega)
structure Dat (n : Nat) (D : List Nat) : Prop where
  size : SizeOK n
  nd : D.Nodup
  lt : ∀ p ∈ D, p < n
  l3 : 3 ≤ D.length
  l6 : D.length ≤ 6
noncomputable def Cg (n x y : Int) : Prop := ∃ q : Int, x = y + n * q
theorem Cg.symm {n x y : Int} (h : Cg n x y) : Cg n y x := by
  obtain ⟨q, e⟩ := h
  exact ⟨-q, by rw [Int.mul_neg]; (first | lia | omega)⟩
theorem Cg.trans {n x y z : Int} (h : Cg n x y) (h2 : Cg n y z) : Cg n x z := by
  obtain ⟨q, e⟩ := h
  obtain ⟨r, e2⟩ := h2
  exact ⟨q + r, by rw [Int.mul_add]; (first | lia | omega)⟩
theorem Cg.add {n x y u v : Int} (h : Cg n x y) (h2 : Cg n u v) : Cg n (x + u) (y + v) := by
  obtain ⟨q, e⟩ := h
  obtain ⟨r, e2⟩ := h2
  exact ⟨q + r, by rw [Int.mul_add]; (first | lia | omega)⟩
theorem Cg.sub {n x y u v : Int} (h : Cg n x y) (h2 : Cg n u v) : Cg n (x - u) (y - v) := by
  obtain ⟨q, e⟩ := h
  obtain ⟨r, e2⟩ := h2
  exact ⟨q - r, by rw [Int.mul_sub]; (first | lia | omega)⟩
theorem Cg.of {n x y u v : Int} (h : Cg n u v) (k : Int) (e : x - y = u - v + n * k) : Cg n x y := by
  obtain ⟨q, e1⟩ := h
  exact ⟨q + k, by rw [Int.mul_add]; (first | lia | omega)⟩
theorem Cg.refl (n x : Int) : Cg n x x := ⟨0, by (first | lia | omega)⟩
theorem cg_mod (n x : Nat) : Cg n ((x % n : Nat) : Int) (x : Int) := by
  refine ⟨-((x / n : Nat) : Int), ?_⟩
  have h2 : (((x % n + n * (x / n) : Nat)) : Int) = (x : Int) := by rw [Nat.mod_add_div]
  rw [Int.natCast_add, Int.natCast_mul] at h2
  rw [Int.mul_neg]
  (first | lia | omega)
theorem cg_eq {n x y : Nat} (hx : x < n) (hy : y < n) (h : Cg n x y) : x = y := by
  obtain ⟨q, e⟩ := h
  have h1 : (x : Int) % n = (y : Int) % n := by rw [e, Int.add_mul_emod_self_left]
  rw [Int.emod_eq_of_lt (by (first | lia | omega)) (by (first | lia | omega)), Int.emod_eq_of_lt (by (first | lia | omega)) (by (first | lia | omega))] at h1
  exact Int.ofNat.inj h1
theorem cg_of_eq {n : Int} {x y : Nat} (h : x = y) : Cg n x y := h ▸ Cg.refl n x
theorem size_pos {n : Nat} (h : SizeOK n) : 0 < n := Nat.lt_of_lt_of_le (by decide) h.le.1
section
variable {n : Nat}
theorem mod_lt' {x : Nat} (h : SizeOK n) : x % n < n := Nat.mod_lt _ (size_pos h)
theorem mod_cancel {p q : Nat} (t : Nat) (h : SizeOK n) (hp : p < n) (hq : q < n) (e : (p + t) % n = (q + t) % n) : p = q :=
  cg_eq hp hq ((((cg_mod n (p + t)).symm.trans (cg_of_eq e)).trans (cg_mod n (q + t))).of 0 (by (first | lia | omega)))
theorem emod_cg {x : Int} {r : Nat} (hr : r < n) (h : Cg n (r : Int) x) : x % (n : Int) = (r : Int) := by
  obtain ⟨q, e⟩ := h.symm
  rw [e, Int.add_mul_emod_self_left, Int.emod_eq_of_lt (by (first | lia | omega)) (by (first | lia | omega))]
end
noncomputable abbrev wordsL (n : Nat) : List Str := (List.range n).map nameOf
noncomputable def list2 (q : AV × St) : Option (List Str) := match q.1 with
  | .ref 2 => (match (q.2 : List AO)[2]? with
    | some (AO.list xs) => strsOf xs
    | _ => none)
  | _ => none
theorem words_small : ∀ n ∈ [7, 13, 21, 31], ((op_law_words_1 [.int ((n : Nat) : Int)] []).bind list2).map (fun l => l.map fun s => s.cps.toList) = some ((wordsL n).map fun s => s.cps.toList) := by decide +kernel
theorem strsOf_inv : ∀ {xs : List AV} {l : List Str}, strsOf xs = some l → xs = avS l
  | [], _, h => by cases h; rfl
  | a :: xs, l, h => by
    cases a with
    | str s =>
      unfold strsOf at h
      obtain ⟨m, e1, e2⟩ := omap h
      subst e2
      rw [strsOf_inv e1]
      rfl
    | _ => cases h
theorem words_at {n : Nat} (h : SizeOK n) : ∃ σ1, op_law_words_1 [.int (n : Nat)] [] = some (.ref 2, σ1) ∧ σ1[2]? = some (.list (avS (wordsL n))) := by
  have hs := words_small n (by rcases h with rfl | rfl | rfl | rfl <;> simp)
  obtain ⟨l, e1, e2⟩ := omap hs
  obtain ⟨⟨a, σ1⟩, e3, e4⟩ := obind e1
  unfold list2 at e4
  dsimp only at e4
  split at e4
  · split at e4
    · rename_i xs hx
      refine ⟨σ1, e3, ?_⟩
      rw [hx, strsOf_inv e4]
      have : l = wordsL n := by
        apply List.map_inj_right (f := fun s : Str => s.cps.toList) (fun a b hab => str_of_list hab) |>.mp
        exact e2
      rw [this]
    · cases e4
  · cases e4
theorem words_f {n : Nat} (h : SizeOK n) (σ : St) : op_law_words_f [.int (n : Nat)] σ = some (.ref σ.length, σ ++ [.list (avS (wordsL n))]) := by
  obtain ⟨σ1, e1, e2⟩ := words_at h
  exact frame0 rfl e1 (adopt_list (Nat.zero_le _) e2 (nrs_strs _))
/-! _law_lines -/
noncomputable abbrev movedL (n : Nat) (D : List Nat) (t : Nat) : List Nat := D.map fun p => (p + t) % n
noncomputable def lineN (n : Nat) (D : List Nat) (t : Nat) : List Nat := (List.range n).filter fun x => (movedL n D t).contains x
theorem mem_lineN {n : Nat} {D : List Nat} {t x : Nat} : x ∈ lineN n D t ↔ x < n ∧ ∃ p ∈ D, (p + t) % n = x := by
  unfold lineN
  rw [List.mem_filter, List.mem_range]
  simp
theorem movedL_nodup {n : Nat} {D : List Nat} (h : Dat n D) (t : Nat) : (movedL n D t).Nodup := by
  have : ∀ l : List Nat, (∀ p ∈ l, p < n) → l.Nodup → (movedL n l t).Nodup := by
    intro l
    induction l with
    | nil => intro _ _; exact List.nodup_nil
    | cons a l ih =>
      intro h1 h2
      have h3 := List.nodup_cons.mp h2
      show ((a + t) % n :: movedL n l t).Nodup
      refine List.nodup_cons.mpr ⟨fun hm => ?_, ih (fun p hp => h1 p (List.mem_cons_of_mem _ hp)) h3.2⟩
      obtain ⟨q, hq, e⟩ := List.mem_map.mp hm
      have := mod_cancel t h.size (h1 q (List.mem_cons_of_mem _ hq)) (h1 a (List.mem_cons_self ..)) e
      exact h3.1 (this ▸ hq)
  exact this D h.lt h.nd
theorem bitsFrom_eq : ∀ k i q, bitsFrom k i q = (List.range' i k).filter fun j => q.testBit (j - i)
  | 0, _, _ => rfl
  | k + 1, i, q => by
    have ih := bitsFrom_eq k (i + 1) (q / 2)
    have hr : (List.range' (i + 1) k).filter (fun j => (q / 2).testBit (j - (i + 1))) = (List.range' (i + 1) k).filter fun j => q.testBit (j - i) := by
      apply List.filter_congr
      intro j hj
      have := (List.mem_range'_1.mp hj).1
      rw [show j - i = (j - (i + 1)) + 1 by (first | lia | omega), Nat.testBit_add_one]
    unfold bitsFrom
    rw [ih, hr, List.range'_succ, List.filter_cons, Nat.sub_self, Nat.testBit_zero]
    by_cases hq : q % 2 = 1
    · rw [if_pos hq, if_pos (decide_eq_true hq)]
    · rw [if_neg hq, if_neg (by simpa using hq)]
noncomputable abbrev numN (n : Nat) (D : List Nat) (t : Nat) : Nat := ((movedL n D t).map fun p => 2 ^ p).sum
theorem numN_bit {n : Nat} {D : List Nat} (h : Dat n D) (t j : Nat) : (numN n D t).testBit j = (movedL n D t).contains j := by
  rw [sum_bits (movedL_nodup h t)]
  rw [Bool.eq_iff_iff]
  simp
theorem numN_lt {n : Nat} {D : List Nat} (h : Dat n D) (t : Nat) : numN n D t < 2 ^ 32 := by
  refine sum_lt (movedL_nodup h t) fun p hp => ?_
  obtain ⟨q, _, rfl⟩ := List.mem_map.mp hp
  have := h.size.le
  have := Nat.mod_lt (q + t) (show 0 < n by (first | lia | omega))
  (first | lia | omega)
theorem bits_line {n : Nat} {D : List Nat} (h : Dat n D) (t : Nat) : bitsFrom 32 0 (numN n D t) = lineN n D t := by
  rw [bitsFrom_eq]
  have hn := h.size.le
  have e : List.range' 0 32 = List.range n ++ List.range' n (32 - n) := by
    have := @List.range'_append_1 0 n (32 - n)
    rw [Nat.zero_add, show n + (32 - n) = 32 by (first | lia | omega)] at this
    rw [List.range_eq_range', this]
  rw [e, List.filter_append]
  have e2 : (List.range' n (32 - n)).filter (fun j => (numN n D t).testBit (j - 0)) = [] := by
    rw [List.filter_eq_nil_iff]
    intro j hj
    rw [Nat.sub_zero, numN_bit h]
    have := (List.mem_range'_1.mp hj).1
    intro hc
    rw [List.contains_iff_mem] at hc
    obtain ⟨q, _, rfl⟩ := List.mem_map.mp hc
    have := Nat.mod_lt (q + t) (show 0 < n by (first | lia | omega))
    (first | lia | omega)
  rw [e2, List.append_nil]
  unfold lineN
  apply List.filter_congr
  intro j _
  rw [Nat.sub_zero, numN_bit h]
theorem flag_line {n : Nat} {D : List Nat} (h : Dat n D) (t : Nat) : flagList (numN n D t) = (lineN n D t).map nameOf := by
  unfold flagList
  rw [bits_line h, if_neg]
  intro h0
  obtain ⟨p, ps, e⟩ : ∃ p ps, D = p :: ps := by
    cases D with
    | nil => have := h.l3; simp at this
    | cons p ps => exact ⟨p, ps, rfl⟩
  have := numN_bit h t ((p + t) % n)
  rw [h0, Nat.zero_testBit] at this
  have hc : (movedL n D t).contains ((p + t) % n) = true := by
    rw [List.contains_iff_mem]
    exact List.mem_map.mpr ⟨p, by rw [e]; exact List.mem_cons_self .., rfl⟩
  rw [hc] at this
  cases this
theorem idx_words : ∀ n ∈ [7, 13, 21, 31], ∀ i, i < n → ((wordsL n).findIdx? fun m => m.cps.toList == (nameOf i).cps.toList) = some i := by decide +kernel
theorem idxO_words {n i : Nat} (h : SizeOK n) (hi : i < n) {σ : St} {id : Nat} (hσ : σ[id]? = some (.list (avS (wordsL n)))) : idxO (.ref id) [.str (nameOf i)] σ = some (.int (i : Nat), σ) := by
  unfold idxO
  dsimp only
  rw [hσ]
  dsimp only
  rw [strsOf_map]
  dsimp only
  have := h.le
  rw [if_pos (by simp; (first | lia | omega)), idx_words n (by rcases h with rfl | rfl | rfl | rfl <;> simp) i hi]
  rfl
end Mine
end
section
set_option maxRecDepth 100000
namespace Mine
/-! one step of an expression -/
section
variable {ρ : Fm} {σ σ1 σ2 : St} {f f1 f2 : EF} {fs : EFs} {a b : AV} {as : List AV}
theorem cons_at (h1 : f ρ σ = some (a, σ1)) (h2 : fs ρ σ1 = some (as, σ2)) : consEs f fs ρ σ = some (a :: as, σ2) := by unfold consEs; rw [h1, Option.bind_some]; dsimp only; rw [h2]; rfl
theorem cons1_at (h1 : f ρ σ = some (a, σ1)) : consEs f nilEs ρ σ = some ([a], σ1) := cons_at h1 rfl
theorem call_at {op : CF} {r : Option (AV × St)} (h1 : fs ρ σ = some (as, σ1)) (h2 : op as σ1 = r) : callE op fs ρ σ = r := by unfold callE; rw [h1, Option.bind_some]; exact h2
theorem meth_at {ok : AV → St → Bool} {op : MF} {r : Option (AV × St)} (h1 : f ρ σ = some (a, σ1)) (ho : ok a σ1 = true) (h2 : fs ρ σ1 = some (as, σ2)) (h3 : op a as σ2 = r) : methO ok op f fs ρ σ = r := by
  unfold methO; rw [h1, Option.bind_some]; dsimp only; rw [if_pos ho, h2]; exact h3
theorem bin_at {op : BF} {r : Option (AV × St)} (h1 : f1 ρ σ = some (a, σ1)) (h2 : f2 ρ σ1 = some (b, σ2)) (h3 : op a b σ2 = r) : binE op f1 f2 ρ σ = r := by
  unfold binE; rw [h1, Option.bind_some]; dsimp only; rw [h2]; exact h3
theorem cmp_at {op : BF} {t : Bool} {σ3 : St} (h1 : f1 ρ σ = some (a, σ1)) (h2 : f2 ρ σ1 = some (b, σ2)) (h3 : op a b σ2 = some (.bool t, σ3)) : cmpT op f1 f2 ρ σ = some (t, σ3) := by
  unfold cmpT; rw [bin_at h1 h2 h3]; rfl
theorem asg_at {i : Nat} (h1 : f ρ σ = some (a, σ1)) : asgS i f ρ σ = some (.next, Fm.put ρ i a, σ1) := by unfold asgS; rw [h1]; rfl
theorem aug_at {i : Nat} {op : BF} {c : AV} (h0 : Fm.get ρ i = some c) (h1 : f ρ σ = some (a, σ1)) (h2 : op c a σ1 = some (b, σ2)) : augS i op f ρ σ = some (.next, Fm.put ρ i b, σ2) := by
  unfold augS; rw [h0, Option.bind_some, h1, Option.bind_some]; dsimp only; rw [h2]; rfl
theorem expr_at (h1 : f ρ σ = some (.con .none, σ1)) : exprS f ρ σ = some (.next, ρ, σ1) := by unfold exprS; rw [h1]; rfl
theorem ret_at (h1 : f ρ σ = some (a, σ1)) : retS f ρ σ = some (.ret a, ρ, σ1) := by unfold retS; rw [h1]; rfl
theorem lst_at (h1 : fs ρ σ = some (as, σ1)) (h : as.length ≤ 65536) : lstE fs ρ σ = some (.ref σ1.length, σ1 ++ [.list as]) := by unfold lstE; rw [h1, Option.bind_some]; unfold newL; dsimp only; rw [if_pos h]
theorem tup_at (h1 : fs ρ σ = some (as, σ1)) (h : as.length ≤ 65536) : tupE fs ρ σ = some (.tup as, σ1) := by unfold tupE; rw [h1, Option.bind_some]; dsimp only; rw [if_pos h]
theorem asgA_at {t : AF} {ρ1 : Fm} (h1 : f ρ σ = some (a, σ1)) (h2 : t a ρ σ1 = some (ρ1, σ2)) : asgA f t ρ σ = some (.next, ρ1, σ2) := by unfold asgA; rw [h1, Option.bind_some]; dsimp only; rw [h2]; rfl
end
/-! loops, turn by turn -/
theorem for_to {bf ef : SF} {fr : IF} {v b fuel : Nat} {ρ : Fm} {σ σ0 : St} (I : Nat → Fm → St → Prop) (hf : fr ρ σ0 = some (.range 0 1 b, σ)) (hb : b < fuel) (h0 : I 0 ρ σ)
    (step : ∀ i, i < b → ∀ ρ σ, I i ρ σ → ∃ ρ2 σ2, bf (Fm.put ρ v (.int (i : Nat))) σ = some (.next, ρ2, σ2) ∧ I (i + 1) ρ2 σ2) :
    ∃ ρ' σ', forS false fuel (nameA v) fr bf ef ρ σ0 = ef ρ' σ' ∧ I b ρ' σ' := by
  obtain ⟨ρ', σ', e, hI⟩ := for_range_inv (tf := nameA v) (bf := bf) (ef := ef) (st := 1) I b 0 0 fuel ρ σ hb h0 fun i ρ σ _ hi hI => by
    obtain ⟨ρ2, σ2, e, hI'⟩ := step i (by (first | lia | omega)) ρ σ hI
    refine ⟨_, _, ρ2, σ2, rfl, ?_, hI'⟩
    have : (0 : Int) + ((i - 0 : Nat) : Int) * 1 = (i : Int) := by rw [Nat.sub_zero, Int.mul_one, Int.zero_add]
    rw [this]
    exact e
  refine ⟨ρ', σ', ?_, by rwa [Nat.zero_add] at hI⟩
  unfold forS
  rw [hf]
  exact e
theorem for_in {α : Type} {bf ef : SF} {f : EF} {v id fuel : Nat} {ρ : Fm} {σ σ0 : St} {l : List α} (emb : α → AV) (I : List α → Fm → St → Prop) (hf : f ρ σ0 = some (.ref id, σ)) (hb : l.length < fuel) (hP : ∀ done ρ σ, I done ρ σ → σ[id]? = some (.list (l.map emb))) (h0 : I [] ρ σ)
    (step : ∀ done a rest, l = done ++ a :: rest → ∀ ρ σ, I done ρ σ → ∃ ρ2 σ2, bf (Fm.put ρ v (emb a)) σ = some (.next, ρ2, σ2) ∧ I (done ++ [a]) ρ2 σ2) :
    ∃ ρ' σ', forS false fuel (nameA v) (seqI f) bf ef ρ σ0 = ef ρ' σ' ∧ I l ρ' σ' := by
  have hx : σ[id]? = some (.list (l.map emb)) := hP _ _ _ h0
  have hy : Yields false (fun s => s[id]? = some (.list (l.map emb))) (.list id 0) ((l.map emb).drop 0) := yields_list (fun s hs => hs) _ 0 (Nat.add_zero _)
  rw [List.drop_zero] at hy
  obtain ⟨ρ', σ', e, done, rest, hl, h2, hI⟩ := for_run (tf := nameA v) (bf := bf) (ef := ef) (fun as ρ σ => ∃ done rest, l = done ++ rest ∧ as = rest.map emb ∧ I done ρ σ) (fun as ρ σ ⟨done, rest, _, _, hI⟩ => hP done ρ σ hI)
    (fun a as ρ σ ⟨done, rest, hl, ha, hI⟩ => by
      cases rest with
      | nil => cases ha
      | cons b rest =>
        rw [List.map_cons] at ha
        cases ha
        obtain ⟨ρ2, σ2, e, hI'⟩ := step done b rest hl ρ σ hI
        exact ⟨_, _, ρ2, σ2, rfl, e, done ++ [b], rest, by rw [hl, List.append_assoc]; rfl, rfl, hI'⟩)
    (l.map emb) (.list id 0) fuel ρ σ hy (by rwa [List.length_map]) ⟨[], l, rfl, rfl, h0⟩
  have hr : rest = [] := by
    cases rest with
    | nil => rfl
    | cons => cases h2
  subst hr
  rw [List.append_nil] at hl
  subst hl
  refine ⟨ρ', σ', ?_, hI⟩
  unfold forS seqI
  rw [hf, Option.bind_some]
  dsimp only
  rw [hx]
  exact e
theorem set_get_ne {σ : St} {i j : Nat} {o : AO} (h : i ≠ j) : (σ.set i o)[j]? = σ[j]? := by
  rw [List.getElem?_set]
  exact if_neg h
theorem set_get_eq {σ : St} {i : Nat} {o o' : AO} (h : σ[i]? = some o') : (σ.set i o)[i]? = some o := by
  have := (List.getElem?_eq_some_iff.mp h).1
  rw [List.getElem?_set, if_pos rfl, if_pos this]
theorem get_lt {σ : St} {i : Nat} {o : AO} (h : σ[i]? = some o) : i < σ.length := (List.getElem?_eq_some_iff.mp h).1
theorem appO_at {σ : St} {id : Nat} {xs : List AV} {x : AV} (h : σ[id]? = some (.list xs)) (hl : xs.length ≤ 65536) : appO (.ref id) [x] σ = some (.con .none, σ.set id (.list (xs ++ [x]))) := by
  unfold appO
  dsimp only
  rw [h]
  dsimp only
  rw [if_pos hl]
theorem okL_at {σ : St} {id : Nat} {xs : List AV} (h : σ[id]? = some (.list xs)) : okL (.ref id) σ = true := by
  unfold okL
  dsimp only
  rw [h]
/-! _law_lines -/
section
variable {n : Nat} {D : List Nat}
theorem lines_s1 (h : Dat n D) : law_lines_s1 [some (.int (n : Nat)), some (.ref 0), none, none, none, none] [.list (avN D)] =
    some (.next, [some (.int (n : Nat)), some (.ref 0), some (.ref 1), some (.ref 2), none, none], [.list (avN D), .list (avS (wordsL n)), .list []]) := by
  have e := words_f h.size [.list (avN D)]
  generalize avS (wordsL n) = W at e ⊢
  refine asgA_at (tup_at (cons_at (call_at (cons1_at rfl) e) (cons1_at (lst_at rfl (Nat.zero_le _)))) (by show 2 ≤ 65536; (first | lia | omega))) rfl
theorem lines_body (h : Dat n D) {t : Nat} {σ : St} {ls : List AV} {x5 : Option AV} (h0 : σ[0]? = some (.list (avN D))) (h1 : σ[1]? = some (.list (avS (wordsL n)))) (h2 : σ[2]? = some (.list ls)) (hl : ls.length ≤ 60) :
    law_lines_b1 [some (.int (n : Nat)), some (.ref 0), some (.ref 1), some (.ref 2), some (.int (t : Nat)), x5] σ =
      some (.next, [some (.int (n : Nat)), some (.ref 0), some (.ref 1), some (.ref 2), some (.int (t : Nat)), some (.int (numN n D t : Nat))],
        (σ ++ [AO.list (avN ((movedL n D t).map fun p => 2 ^ p)), AO.list (avS (flagList (numN n D t))), AO.list (avN (lineN n D t))]).set 2 (AO.list (ls ++ [AV.ref (σ.length + 2)]))) := by
  have hn := h.size.le
  have c1 : compE false 65536 [none, some 4, some 0] (seqI (varE 1)) (nameA 0) trueT (binE shlO (valE (.int 1)) (binE modO (binE addO (varE 0) (varE 1)) (varE 2))) [some (.int (n : Nat)), some (.ref 0), some (.ref 1), some (.ref 2), some (.int (t : Nat)), x5] σ =
      some (.ref σ.length, σ ++ [.list (avN ((movedL n D t).map fun p => 2 ^ p))]) := by
    have := compE_seqM (N := 65536) (cap := [none, some 4, some 0]) (ρ := [some (.int (n : Nat)), some (.ref 0), some (.ref 1), some (.ref 2), some (.int (t : Nat)), x5]) (fun (p : Nat) => AV.int (p : Int)) (fun p => AV.int ((2 ^ ((p + t) % n) : Nat) : Int)) (l := D) (f := varE 1) (σ := σ) (cs := [some (.int (t : Nat)), some (.int (n : Nat))]) (ef := binE shlO (valE (.int 1)) (binE modO (binE addO (varE 0) (varE 1)) (varE 2))) rfl h0 (by have := h.l6; (first | lia | omega)) rfl fun p hp => by
      have a1 : addO (.int (p : Nat)) (.int (t : Nat)) σ = some (.int ((p + t : Nat) : Int), σ) := rfl
      have hm := Nat.mod_lt (p + t) (show 0 < n by (first | lia | omega))
      simp only [binE, varE, valE, Fm.get, List.getD_cons_zero, List.getD_cons_succ, Option.map_some, Option.bind_some, a1, modO_nat (σ := σ) (a := p + t) (show n ≠ 0 by (first | lia | omega)), shlO_nat (σ := σ) (p := (p + t) % n) (by (first | lia | omega))]
    rw [this]
    congr 4
    unfold movedL avN
    rw [List.map_map, List.map_map]
    rfl
  have s1 := sumO_avN (σ := σ ++ [.list (avN ((movedL n D t).map fun p => 2 ^ p))]) (id := σ.length) get_new
  have e2 : law_lines_s2 [some (.int (n : Nat)), some (.ref 0), some (.ref 1), some (.ref 2), some (.int (t : Nat)), x5] σ =
      some (.next, [some (.int (n : Nat)), some (.ref 0), some (.ref 1), some (.ref 2), some (.int (t : Nat)), some (.int (numN n D t : Nat))], σ ++ [.list (avN ((movedL n D t).map fun p => 2 ^ p))]) := by
    simp only [law_lines_s2, asgS, callE, consEs, nilEs, c1, Option.map_some, Option.bind_some, s1]
    rfl
  have hN := numN_lt h t
  generalize hσ1 : σ ++ [.list (avN ((movedL n D t).map fun p => 2 ^ p))] = σ1 at e2
  have l1 : σ1.length = σ.length + 1 := by rw [← hσ1]; simp
  have g1 : σ1[1]? = some (.list (avS (wordsL n))) := by rw [← hσ1]; exact get_old h1
  have g2 : σ1[2]? = some (.list ls) := by rw [← hσ1]; exact get_old h2
  have p1 := pretty_f hN σ1
  have p2 := split_f hN σ1
  have p3 : (methO okS splO (callE op_pretty_flags_f (consEs (varE 5) nilEs)) (consEs (valE (.str (Str.ofString ", "))) nilEs)) [some (.int (n : Nat)), some (.ref 0), some (.ref 1), some (.ref 2), some (.int (t : Nat)), some (.int (numN n D t : Nat))] σ1 =
      some (.ref σ1.length, σ1 ++ [.list (avS (flagList (numN n D t)))]) := by
    exact meth_at (call_at (cons1_at rfl) p1) rfl (cons1_at rfl) p2
  have c2 := compE_seqM (N := 65536) (cap := [none, some 2]) (fun (i : Nat) => AV.str (nameOf i)) (fun i => AV.int (i : Nat)) (l := lineN n D t) (cs := [some (.ref 1)]) (ef := methO okL idxO (varE 1) (consEs (varE 0) nilEs)) p3
    (by rw [get_new, flag_line h]; unfold avS; rw [List.map_map]; rfl) (by
      have : (lineN n D t).length ≤ (List.range n).length := List.length_filter_le ..
      rw [List.length_range] at this
      (first | lia | omega)) rfl fun i hi => by
      have hin := (mem_lineN.mp hi).1
      have := idxO_words h.size hin (σ := σ1 ++ [.list (avS (flagList (numN n D t)))]) (id := 1) (get_old g1)
      exact meth_at rfl (okL_at (get_old g1)) (cons1_at rfl) this
  have g3 : ((σ1 ++ [AO.list (avS (flagList (numN n D t)))]) ++ [AO.list (avN (lineN n D t))])[2]? = some (.list ls) := get_old (get_old g2)
  have e3 : law_lines_s3 [some (.int (n : Nat)), some (.ref 0), some (.ref 1), some (.ref 2), some (.int (t : Nat)), some (.int (numN n D t : Nat))] σ1 =
      some (.next, [some (.int (n : Nat)), some (.ref 0), some (.ref 1), some (.ref 2), some (.int (t : Nat)), some (.int (numN n D t : Nat))], ((σ1 ++ [AO.list (avS (flagList (numN n D t)))]) ++ [AO.list (avN (lineN n D t))]).set 2 (.list (ls ++ [.ref (σ.length + 2)]))) := by
    have a1 := appO_at (x := .ref (σ.length + 2)) g3 (by (first | lia | omega))
    have hl2 : (σ1 ++ [AO.list (avS (flagList (numN n D t)))]).length = σ.length + 2 := by simp [l1]
    rw [hl2] at c2
    exact expr_at (meth_at rfl (okL_at g2) (cons1_at c2) a1)
  unfold law_lines_b1
  rw [seq_next e2, seq_next e3]
  show some _ = some _
  congr 4
  rw [← hσ1]
  simp
theorem lines_spec (h : Dat n D) : ∃ σ', op_law_lines_2 [.int (n : Nat), .ref 0] [.list (avN D)] = some (.ref 2, σ') ∧ σ'[0]? = some (.list (avN D)) ∧ σ'[2]? = some (.list (((List.range n).map fun i => 5 + 3 * i).map .ref)) ∧
    ∀ i, i < n → σ'[5 + 3 * i]? = some (.list (avN (lineN n D i))) := by
  have hn := h.size.le
  obtain ⟨ρ', σ', e, ⟨x4, x5, rfl⟩, h0, h1, h2, hl, hc⟩ := for_to (bf := law_lines_b1) (ef := skipS) (fuel := 65536) (fr := rngI (rngF (consEs (varE 0) nilEs))) (v := 4) (b := n) (ρ := [some (.int (n : Nat)), some (.ref 0), some (.ref 1), some (.ref 2), none, none]) (σ0 := [AO.list (avN D), .list (avS (wordsL n)), .list []]) (σ := [AO.list (avN D), .list (avS (wordsL n)), .list []])
    (fun t ρ σ => (∃ x4 x5, ρ = [some (.int (n : Nat)), some (.ref 0), some (.ref 1), some (.ref 2), x4, x5]) ∧ σ[0]? = some (.list (avN D)) ∧ σ[1]? = some (.list (avS (wordsL n))) ∧ σ[2]? = some (.list (((List.range t).map fun i => 5 + 3 * i).map .ref)) ∧ σ.length = 3 + 3 * t ∧
      ∀ i, i < t → σ[5 + 3 * i]? = some (.list (avN (lineN n D i)))) (rngI_to (by (first | lia | omega)) rfl) (by (first | lia | omega)) ⟨⟨none, none, rfl⟩, rfl, rfl, rfl, rfl, fun i hi => absurd hi (Nat.not_lt_zero _)⟩
    (fun t ht ρ σ ⟨⟨x4, x5, hρ⟩, h0, h1, h2, hl, hc⟩ => by
      subst hρ
      have hb := lines_body h (t := t) (x5 := x5) h0 h1 h2 (by simp; (first | lia | omega))
      refine ⟨_, _, hb, ⟨_, _, rfl⟩, ?_, ?_, ?_, ?_, fun i hi => ?_⟩
      · rw [set_get_ne (by (first | lia | omega))]; exact get_old h0
      · rw [set_get_ne (by (first | lia | omega))]; exact get_old h1
      · rw [set_get_eq (get_old h2), hl, List.range_succ, List.map_append, List.map_append]
        have : 3 + 3 * t + 2 = 5 + 3 * t := by (first | lia | omega)
        rw [this]
        rfl
      · rw [List.length_set, List.length_append, hl]
        show _ + 3 = _
        (first | lia | omega)
      · rw [set_get_ne (by (first | lia | omega))]
        by_cases hit : i = t
        · subst hit
          rw [List.getElem?_append_right (by (first | lia | omega)), hl, show 5 + 3 * i - (3 + 3 * i) = 2 by (first | lia | omega)]
          rfl
        · exact get_old (hc i (by (first | lia | omega))))
  refine ⟨σ', ?_, h0, h2, hc⟩
  unfold op_law_lines_2
  rw [plain_eq (show ([AV.int (n : Nat), AV.ref 0]).length = 2 from rfl)]
  refine callF_of (ρ := [some (.int (n : Nat)), some (.ref 0), none, none, none, none]) rfl (ρ' := [some (.int (n : Nat)), some (.ref 0), some (.ref 1), some (.ref 2), x4, x5]) ?_
  unfold law_lines_F
  rw [seq_next (lines_s1 h), seq_next e]
  exact seq_ret (ret_at rfl)
theorem lines_f (h : Dat n D) {σ : St} {d : Nat} (hd : σ[d]? = some (.list (avN D))) : op_law_lines_f [.int (n : Nat), .ref d] σ =
    some (.ref σ.length, σ ++ (.list (refsFrom (σ.length + 1) n) :: (List.range n).map fun i => .list (avN (lineN n D i)))) := by
  obtain ⟨σ1, e, h0, h2, hc⟩ := lines_spec h
  have nr0 : ∀ l : List Nat, nrs (avN l) = true := fun l => by
    have := nrs_ints (l.map fun (n : Nat) => (n : Int))
    rwa [List.map_map] at this
  have hnd : (2 :: (List.range n).map fun i => 5 + 3 * i).Nodup := by
    refine List.nodup_cons.mpr ⟨fun hm => ?_, ?_⟩
    · obtain ⟨i, _, e⟩ := List.mem_map.mp hm
      (first | lia | omega)
    · have := List.nodup_range (n := n)
      unfold List.Nodup at this ⊢
      rw [List.pairwise_map]
      exact this.imp fun hab he => hab (by (first | lia | omega))
  have ad := adopt_rows (ids := [d]) (σ := σ) (j := 2) (σ1 := σ1) (ks := (List.range n).map fun i => 5 + 3 * i) (c := fun k => avN (lineN n D ((k - 5) / 3))) (by simp) hnd (fun k hk => by
    obtain ⟨i, _, rfl⟩ := List.mem_map.mp hk
    simp; (first | lia | omega)) h2 (fun k hk => by
    obtain ⟨i, hi, rfl⟩ := List.mem_map.mp hk
    rw [hc i (List.mem_range.mp hi)]
    refine ⟨?_, nr0 _⟩
    rw [show (5 + 3 * i - 5) / 3 = i by (first | lia | omega)])
  have := frame1 (pre := [.int (n : Nat)]) (post := []) rfl rfl hd (nr0 D) e h0 ad
  rw [List.length_map, List.length_range, List.map_map] at this
  have hm : (List.range n).map ((fun k => AO.list (avN (lineN n D ((k - 5) / 3)))) ∘ fun i => 5 + 3 * i) = (List.range n).map fun i => AO.list (avN (lineN n D i)) := by
    apply List.map_congr_left
    intro i _
    show AO.list (avN (lineN n D ((5 + 3 * i - 5) / 3))) = _
    rw [show (5 + 3 * i - 5) / 3 = i by (first | lia | omega)]
  rw [hm] at this
  exact this
end
end Mine
end
section
set_option maxRecDepth 100000
namespace Mine
theorem nrs_avN (l : List Nat) : nrs (avN l) = true := by
  have := nrs_ints (l.map fun (n : Nat) => (n : Int))
  rwa [List.map_map] at this
/-! _law_marks -/
noncomputable def maskL (n : Nat) (l : List Nat) : List Nat := (List.range n).map fun x => if l.contains x then 1 else 0
theorem maskL_length (n : Nat) (l : List Nat) : (maskL n l).length = n := by simp [maskL]
theorem maskL_nil (n : Nat) : maskL n [] = List.replicate n 0 := by
  unfold maskL
  apply List.ext_getElem?
  intro i
  rw [List.getElem?_map, List.getElem?_replicate]
  by_cases hi : i < n
  · rw [List.getElem?_range hi, if_pos hi]; rfl
  · rw [List.getElem?_eq_none (by simpa using hi), if_neg hi]; rfl
theorem maskL_set {n : Nat} {l : List Nat} {p : Nat} (hp : p < n) : (maskL n l).set p 1 = maskL n (l ++ [p]) := by
  unfold maskL
  apply List.ext_getElem?
  intro i
  rw [List.getElem?_set, List.getElem?_map, List.getElem?_map, List.length_map, List.length_range]
  by_cases hi : i < n
  · rw [List.getElem?_range hi]
    by_cases hpi : p = i
    · subst hpi
      rw [if_pos rfl, if_pos hi]
      show some 1 = some (if (l ++ [p]).contains p = true then 1 else 0)
      rw [if_pos (by simp)]
    · rw [if_neg hpi]
      show some (if l.contains i = true then 1 else 0) = some (if (l ++ [p]).contains i = true then 1 else 0)
      have : (l ++ [p]).contains i = l.contains i := by
        rw [Bool.eq_iff_iff, List.contains_iff_mem, List.contains_iff_mem, List.mem_append, List.mem_singleton]
        constructor
        · rintro (h | h)
          · exact h
          · exact absurd h.symm hpi
        · exact .inl
      rw [this]
  · rw [List.getElem?_eq_none (l := List.range n) (by simpa using hi)]
    by_cases hpi : p = i
    · omega
    · rw [if_neg hpi]; rfl
theorem setO_list {σ : St} {id i : Nat} {xs : List AV} {c : AV} (h : σ[id]? = some (.list xs)) (hi : i < xs.length) (hl : xs.length ≤ 65536) : setO (.ref id) (.int (i : Nat)) c σ = some (σ.set id (.list (xs.set i c))) := by
  unfold setO
  dsimp only
  rw [h]
  dsimp only
  rw [if_pos ⟨by (first | lia | omega), by (first | lia | omega), hl⟩, Int.toNat_natCast]
theorem iaddO_at {σ : St} {i j : Nat} {xs ys : List AV} (hij : i ≠ j) (h1 : σ[i]? = some (.list xs)) (h2 : σ[j]? = some (.list ys)) (hl : xs.length + ys.length ≤ 65536) : iaddO (.ref i) (.ref j) σ = some (.ref i, σ.set i (.list (xs ++ ys))) := by
  unfold iaddO
  dsimp only
  rw [if_neg hij, h1, h2]
  dsimp only
  rw [if_pos hl]
theorem put_at {op : WF} {f fo fi : EF} {ρ : Fm} {σ σ1 σ2 σ3 σ4 : St} {a b c : AV} (h1 : f ρ σ = some (a, σ1)) (h2 : fo ρ σ1 = some (b, σ2)) (h3 : fi ρ σ2 = some (c, σ3)) (h4 : op b c a σ3 = some σ4) : putS op f fo fi ρ σ = some (.next, ρ, σ4) := by
  unfold putS
  rw [h1, Option.bind_some]
  dsimp only
  rw [h2, Option.bind_some]
  dsimp only
  rw [h3, Option.bind_some]
  dsimp only
  rw [h4]
  rfl
theorem bytO_at {σ : St} {id : Nat} {l : List Nat} (h : σ[id]? = some (.list (avN l))) (hb : ∀ x ∈ l, x < 256) (hl : l.length ≤ 65536) : bytO [.ref id] σ = some (.bytes l, σ) := by
  unfold bytO
  dsimp only
  rw [h]
  dsimp only
  rw [intsOf_avN]
  dsimp only
  rw [if_pos]
  · rw [List.map_map, toNat_map]
  · refine ⟨?_, by rwa [List.length_map]⟩
    rw [List.all_eq_true]
    intro x hx
    obtain ⟨y, hy, rfl⟩ := List.mem_map.mp hx
    have := hb y hy
    rw [Bool.and_eq_true]
    exact ⟨decide_eq_true (by (first | lia | omega)), decide_eq_true (by (first | lia | omega))⟩
section
variable {n m : Nat}
theorem marks_row (hn : n ≤ 60) {σ : St} {line : List Nat} {i r M : Nat} {x5 : Option AV} (hi : σ[i]? = some (.list (avN line))) (hr : σ[r]? = some (.list (avN (List.replicate n 0)))) (hir : r ≠ i) (hl : line.length ≤ 60) (hlt : ∀ p ∈ line, p < n) :
    ∃ y5 σ', forS false 65536 (nameA 5) (seqI (varE 3)) law_marks_b1 skipS [some (.int (n : Nat)), some (.ref 0), some (.ref M), some (.ref i), some (.ref r), x5] σ =
      some (.next, [some (.int (n : Nat)), some (.ref 0), some (.ref M), some (.ref i), some (.ref r), y5], σ') ∧ σ'[r]? = some (.list (avN (maskL n line))) ∧ ∀ j, j ≠ r → σ'[j]? = σ[j]? := by
  obtain ⟨ρ', σ', e, ⟨y5, rfl⟩, h1, h2⟩ := for_in (bf := law_marks_b1) (ef := skipS) (f := varE 3) (v := 5) (fuel := 65536) (ρ := [some (.int (n : Nat)), some (.ref 0), some (.ref M), some (.ref i), some (.ref r), x5]) (σ := σ) (σ0 := σ) (l := line) (id := i) (fun (p : Nat) => AV.int (p : Int))
    (fun done ρ s => (∃ x5, ρ = [some (.int (n : Nat)), some (.ref 0), some (.ref M), some (.ref i), some (.ref r), x5]) ∧ s[r]? = some (.list (avN (maskL n done))) ∧ ∀ j, j ≠ r → s[j]? = σ[j]?) rfl (by (first | lia | omega))
    (fun done ρ s ⟨_, _, h⟩ => by rw [h i (Ne.symm hir)]; exact hi) ⟨⟨_, rfl⟩, by rw [maskL_nil]; exact hr, fun _ _ => rfl⟩
    (fun done p rest hd ρ s ⟨⟨x5, hρ⟩, h1, h2⟩ => by
      subst hρ
      have hp : p < n := hlt p (by rw [hd]; simp)
      have hlen : (avN (maskL n done)).length = n := by rw [List.length_map, maskL_length]
      have hs := setO_list (c := .int 1) (i := p) h1 (by (first | lia | omega)) (by (first | lia | omega))
      refine ⟨_, _, seq_next (put_at (σ1 := s) (σ2 := s) (σ3 := s) rfl rfl rfl hs), ⟨_, rfl⟩, ?_, fun j hj => ?_⟩
      · rw [set_get_eq h1, ← maskL_set hp]
        congr 2
        exact (List.map_set ..).symm
      · rw [set_get_ne (Ne.symm hj)]; exact h2 j hj)
  exact ⟨y5, σ', e, h1, h2⟩
theorem range_split {m a : Nat} {done rest : List Nat} (h : List.range m = done ++ a :: rest) : a = done.length ∧ done = List.range a ∧ a < m := by
  have hl : done.length < m := by
    have := congrArg List.length h
    simp at this
    (first | lia | omega)
  have ha : a = done.length := by
    have h1 : (List.range m)[done.length]? = some a := by rw [h, List.getElem?_append_right (Nat.le_refl _), Nat.sub_self]; rfl
    rw [List.getElem?_range hl] at h1
    exact (Option.some.inj h1).symm
  refine ⟨ha, ?_, by (first | lia | omega)⟩
  have h2 : (List.range m).take done.length = done := by rw [h, List.take_left']; rfl
  rw [← h2, ha, List.take_range, Nat.min_eq_left (by (first | lia | omega))]
theorem flat_snoc {f : Nat → List Nat} (t : Nat) : (List.range (t + 1)).flatMap f = (List.range t).flatMap f ++ f t := by
  rw [List.range_succ, List.flatMap_append]
  simp
theorem marks_body (hn : n ≤ 60) {σ : St} {line acc : List Nat} {i M : Nat} {x4 x5 : Option AV} (hi : σ[i]? = some (.list (avN line))) (hM : σ[M]? = some (.list (avN acc))) (hiM : i ≠ M) (hl : line.length ≤ 60) (hlt : ∀ p ∈ line, p < n) (ha : acc.length ≤ 1000) :
    ∃ y4 y5 σ', law_marks_b2 [some (.int (n : Nat)), some (.ref 0), some (.ref M), some (.ref i), x4, x5] σ =
      some (.next, [some (.int (n : Nat)), some (.ref 0), some (.ref M), some (.ref i), y4, y5], σ') ∧ σ'[M]? = some (.list (avN (acc ++ maskL n line))) ∧ ∀ j, j ≠ M → j < σ.length → σ'[j]? = σ[j]? := by
  have e1 : law_marks_s2 [some (.int (n : Nat)), some (.ref 0), some (.ref M), some (.ref i), x4, x5] σ =
      some (.next, [some (.int (n : Nat)), some (.ref 0), some (.ref M), some (.ref i), some (.ref (σ.length + 1)), x5], (σ ++ [.list [.int 0]]) ++ [.list (avN (List.replicate n 0))]) := by
    refine asg_at (a := .ref (σ.length + 1)) (bin_at (lst_at (cons1_at rfl) (by show 1 ≤ 65536; (first | lia | omega))) rfl ?_)
    show mulO (.ref σ.length) (.int (n : Nat)) (σ ++ [AO.list [.int 0]]) = _
    unfold mulO
    dsimp only
    rw [get_new]
    dsimp only
    rw [if_pos ⟨by (first | lia | omega), by (first | lia | omega)⟩, Int.toNat_natCast]
    have h1 : (σ ++ [AO.list [AV.int 0]]).length = σ.length + 1 := by simp
    have h2 : avN (List.replicate n 0) = List.replicate n (AV.int 0) := by unfold avN; rw [List.map_replicate]; rfl
    rw [h1, h2]
  have hi' : ((σ ++ [AO.list [.int 0]]) ++ [AO.list (avN (List.replicate n 0))])[i]? = some (.list (avN line)) := get_old (get_old hi)
  have hM' : ((σ ++ [AO.list [.int 0]]) ++ [AO.list (avN (List.replicate n 0))])[M]? = some (.list (avN acc)) := get_old (get_old hM)
  have hr' : ((σ ++ [AO.list [.int 0]]) ++ [AO.list (avN (List.replicate n 0))])[σ.length + 1]? = some (.list (avN (List.replicate n 0))) := by
    have := get_new (σ := σ ++ [AO.list [.int 0]]) (o := AO.list (avN (List.replicate n 0)))
    rwa [show (σ ++ [AO.list [AV.int 0]]).length = σ.length + 1 by simp] at this
  have lM := get_lt hM
  have li := get_lt hi
  obtain ⟨y5, σ', e2, h1, h2⟩ := marks_row (M := M) (x5 := x5) hn hi' hr' (by (first | lia | omega)) hl hlt
  have hM2 : σ'[M]? = some (.list (avN acc)) := by rw [h2 M (by (first | lia | omega))]; exact hM'
  have e3 := iaddO_at (show M ≠ σ.length + 1 by (first | lia | omega)) hM2 h1 (by rw [List.length_map, List.length_map, maskL_length]; (first | lia | omega))
  refine ⟨_, _, _, (seq_next e1).trans ((seq_next e2).trans (seq_next (aug_at rfl rfl e3))), ?_, fun j hj hjl => ?_⟩
  · rw [set_get_eq hM2, ← List.map_append]
  · rw [set_get_ne (Ne.symm hj), h2 j (by (first | lia | omega)), List.append_assoc]
    exact (List.getElem?_append_left hjl)
theorem marks_spec (hn : n ≤ 60) {ls : List (List Nat)} (hls : ls.length ≤ 10) (hl : ∀ l ∈ ls, l.length ≤ 60 ∧ ∀ p ∈ l, p < n) : ∃ σ', op_law_marks_2 [.int (n : Nat), .ref 0] (.list (refsFrom 1 ls.length) :: ls.map fun l => .list (avN l)) =
    some (.bytes (ls.flatMap (maskL n)), σ') ∧ ∀ j, j < ls.length + 1 → σ'[j]? = (AO.list (refsFrom 1 ls.length) :: ls.map fun l => AO.list (avN l))[j]? := by
  generalize hτ : (AO.list (refsFrom 1 ls.length) :: ls.map fun l => AO.list (avN l)) = τ
  have hτl : τ.length = ls.length + 1 := by rw [← hτ]; simp
  have e1 : law_marks_s1 [some (.int (n : Nat)), some (.ref 0), none, none, none, none] τ = some (.next, [some (.int (n : Nat)), some (.ref 0), some (.ref (ls.length + 1)), none, none, none], τ ++ [.list (avN [])]) := by
    refine asg_at (a := .ref (ls.length + 1)) ?_
    have := lst_at (ρ := [some (.int (n : Nat)), some (.ref 0), none, none, none, none]) (σ := τ) (fs := nilEs) (as := []) rfl (Nat.zero_le _)
    rw [hτl] at this
    exact this
  have t0 : τ[0]? = some (.list ((List.range ls.length).map fun i => AV.ref (1 + i))) := by rw [← hτ]; rfl
  obtain ⟨ρ', σ', e2, ⟨x3, x4, x5, rfl⟩, h1, h2⟩ := for_in (bf := law_marks_b2) (ef := skipS) (f := varE 1) (v := 3) (fuel := 65536) (ρ := [some (.int (n : Nat)), some (.ref 0), some (.ref (ls.length + 1)), none, none, none]) (σ := τ ++ [.list (avN [])]) (σ0 := τ ++ [.list (avN [])]) (l := List.range ls.length) (id := 0) (fun i => AV.ref (1 + i))
    (fun done ρ s => (∃ x3 x4 x5, ρ = [some (.int (n : Nat)), some (.ref 0), some (.ref (ls.length + 1)), x3, x4, x5]) ∧ s[ls.length + 1]? = some (.list (avN (done.flatMap fun i => maskL n (ls.getD i [])))) ∧ ∀ j, j < ls.length + 1 → s[j]? = τ[j]?) rfl (by rw [List.length_range]; (first | lia | omega))
    (fun done ρ s ⟨_, _, h⟩ => by rw [h 0 (by (first | lia | omega))]; exact t0) ⟨⟨_, _, _, rfl⟩, by rw [← hτl]; exact get_new, fun j hj => List.getElem?_append_left (by (first | lia | omega))⟩
    (fun done a rest hd ρ s ⟨⟨x3, x4, x5, hρ⟩, h1, h2⟩ => by
      subst hρ
      obtain ⟨ha, hda, ham⟩ := range_split hd
      have hmem : ls.getD a [] ∈ ls := by
        rw [List.getD_eq_getElem?_getD, List.getElem?_eq_getElem ham]
        exact List.getElem_mem ham
      have hia : s[1 + a]? = some (.list (avN (ls.getD a []))) := by
        rw [h2 (1 + a) (by (first | lia | omega)), ← hτ, Nat.add_comm, List.getElem?_cons_succ, List.getElem?_map, List.getD_eq_getElem?_getD, List.getElem?_eq_getElem ham]
        rfl
      have hlen : (done.flatMap fun i => maskL n (ls.getD i [])).length ≤ 1000 := by
        rw [List.length_flatMap]
        have : (done.map fun i => (maskL n (ls.getD i [])).length) = List.replicate done.length n := by
          rw [List.eq_replicate_iff]
          refine ⟨by simp, fun b hb => ?_⟩
          obtain ⟨i, _, rfl⟩ := List.mem_map.mp hb
          exact maskL_length ..
        rw [this, List.sum_replicate_nat]
        have : done.length * n ≤ 10 * 60 := Nat.mul_le_mul (by (first | lia | omega)) hn
        (first | lia | omega)
      obtain ⟨y4, y5, σ', e, g1, g2⟩ := marks_body (x4 := x4) (x5 := x5) hn hia h1 (by (first | lia | omega)) (hl _ hmem).1 (hl _ hmem).2 hlen
      have ls1 := get_lt h1
      refine ⟨_, _, e, ⟨_, _, _, rfl⟩, ?_, fun j hj => ?_⟩
      · rw [g1, List.flatMap_append]
        congr 3
        simp
      · rw [g2 j (by (first | lia | omega)) (by (first | lia | omega))]; exact h2 j hj)
  have hfl : (List.range ls.length).flatMap (fun i => maskL n (ls.getD i [])) = ls.flatMap (maskL n) := by
    rw [List.flatMap_def, List.flatMap_def]
    congr 1
    apply List.ext_getElem?
    intro i
    rw [List.getElem?_map, List.getElem?_map]
    by_cases hi : i < ls.length
    · rw [List.getElem?_range hi, List.getElem?_eq_getElem hi]
      show some (maskL n (ls.getD i [])) = some (maskL n ls[i])
      rw [List.getD_eq_getElem?_getD, List.getElem?_eq_getElem hi]
      rfl
    · rw [List.getElem?_eq_none (by simpa using hi), List.getElem?_eq_none (by (first | lia | omega))]; rfl
  rw [hfl] at h1
  have hbl : (ls.flatMap (maskL n)).length ≤ 1000 := by
    rw [List.length_flatMap]
    have : (ls.map fun l => (maskL n l).length) = List.replicate ls.length n := by
      rw [List.eq_replicate_iff]
      refine ⟨by simp, fun b hb => ?_⟩
      obtain ⟨i, _, rfl⟩ := List.mem_map.mp hb
      exact maskL_length ..
    rw [this, List.sum_replicate_nat]
    have : ls.length * n ≤ 10 * 60 := Nat.mul_le_mul hls hn
    (first | lia | omega)
  have hb := bytO_at h1 (fun x hx => by
    obtain ⟨l, _, hx⟩ := List.mem_flatMap.mp hx
    unfold maskL at hx
    obtain ⟨y, _, rfl⟩ := List.mem_map.mp hx
    split <;> (first | lia | omega)) (by (first | lia | omega))
  refine ⟨σ', ?_, h2⟩
  unfold op_law_marks_2
  rw [plain_eq (show ([AV.int (n : Nat), AV.ref 0]).length = 2 from rfl)]
  refine callF_of (ρ := [some (.int (n : Nat)), some (.ref 0), none, none, none, none]) rfl (ρ' := [some (.int (n : Nat)), some (.ref 0), some (.ref (ls.length + 1)), x3, x4, x5]) ?_
  unfold law_marks_F
  rw [seq_next e1, seq_next e2]
  exact seq_ret (ret_at (call_at (cons1_at rfl) hb))
/-- framed: the lists that a list of refs holds -/
theorem marks_f (hn : n ≤ 60) {s : Nat} {ks : List Nat} {c : Nat → List Nat} {σ : St} (hσ : σ[s]? = some (.list (ks.map .ref))) (hnd : (s :: ks).Nodup) (hc : ∀ k ∈ ks, σ[k]? = some (.list (avN (c k))) ∧ (c k).length ≤ 60 ∧ ∀ p ∈ c k, p < n) (hl : ks.length ≤ 10) :
    op_law_marks_f [.int (n : Nat), .ref s] σ = some (.bytes (ks.flatMap fun k => maskL n (c k)), σ) := by
  obtain ⟨σ1, e, h0⟩ := marks_spec hn (ls := ks.map c) (by simpa using hl) (fun l hl => by
    obtain ⟨k, hk, rfl⟩ := List.mem_map.mp hl
    exact (hc k hk).2)
  rw [List.length_map, List.map_map] at e h0
  have hf : (ks.map c).flatMap (maskL n) = ks.flatMap fun k => maskL n (c k) := by rw [List.flatMap_map]
  rw [hf] at e
  exact frame_rows (pre := [.int (n : Nat)]) (post := []) (c := fun k => avN (c k)) rfl rfl hσ hnd (fun k hk => ⟨(hc k hk).1, nrs_avN _⟩) e h0 rfl
end
end Mine
end
section
set_option maxRecDepth 100000
namespace Mine
theorem inO_at {σ : St} {id x : Nat} {l : List Nat} (h : σ[id]? = some (.list (avN l))) : inO (.int (x : Nat)) (.ref id) σ = some (.bool (l.contains x), σ) := by
  unfold inO
  dsimp only
  rw [h]
  dsimp only
  rw [intsOf_avN, Option.map_some]
  congr 3
  rw [Bool.eq_iff_iff, List.contains_iff_mem, List.any_eq_true]
  constructor
  · rintro ⟨y, hy, e⟩
    obtain ⟨z, hz, rfl⟩ := List.mem_map.mp hy
    have : z = x := by have := eq_of_beq e; (first | lia | omega)
    exact this ▸ hz
  · intro hx
    exact ⟨(x : Int), List.mem_map.mpr ⟨x, hx, rfl⟩, beq_self_eq_true _⟩
theorem modO_of {a : Int} {n r : Nat} {σ : St} (h : SizeOK n) (e : a % (n : Int) = (r : Int)) : modO (.int a) (.int (n : Nat)) σ = some (.int (r : Nat), σ) := by
  have := h.le
  unfold modO
  dsimp only
  rw [if_neg (by (first | lia | omega)), Int.fmod_eq_emod_of_nonneg _ (by (first | lia | omega)), e]
theorem if_at {t : TF} {f1 f2 : EF} {ρ : Fm} {σ : St} {b : Bool} {a1 a2 : AV} (ht : t ρ σ = some (b, σ)) (h1 : f1 ρ σ = some (a1, σ)) (h2 : f2 ρ σ = some (a2, σ)) : ifE t f1 f2 ρ σ = some (if b = true then a1 else a2, σ) := by
  unfold ifE
  rw [ht, Option.bind_some]
  dsimp only
  cases b
  · rw [if_neg (by decide), if_neg (by decide)]; exact h2
  · rw [if_pos rfl, if_pos rfl]; exact h1
/-! _law_backs -/
noncomputable abbrev liesL (n : Nat) (D : List Nat) (t : Nat) : List Nat := D.map fun p => (2 * n - 1 - p - t) % n
section
variable {n : Nat} {D : List Nat}
theorem lies_cg {b T : Nat} (hb : b < n) (hT : T < n) : Cg n ((2 * n - 1 - b - T) % n : Nat) (-1 - b - T) := by
  have := cg_mod n (2 * n - 1 - b - T)
  generalize (2 * n - 1 - b - T) % n = z at this ⊢
  exact this.of 2 (by (first | lia | omega))
theorem lies_mod {p t : Nat} (h : SizeOK n) (hp : p < n) (ht : t < n) : ((n : Int) - 1 - (p : Int) - (t : Int)) % (n : Int) = (((2 * n - 1 - p - t) % n : Nat) : Int) := emod_cg (mod_lt' h) ((lies_cg hp ht).of (-1) (by (first | lia | omega)))
theorem backs_body (h : Dat n D) {t : Nat} (ht : t < n) {σ : St} {acc : List Nat} {x4 : Option AV} (h0 : σ[0]? = some (.list (avN D))) (h1 : σ[1]? = some (.list (avN acc))) (ha : acc.length ≤ 1000) :
    ∃ y4 σ', law_backs_b1 [some (.int (n : Nat)), some (.ref 0), some (.ref 1), some (.int (t : Nat)), x4] σ =
      some (.next, [some (.int (n : Nat)), some (.ref 0), some (.ref 1), some (.int (t : Nat)), y4], σ') ∧ σ'[0]? = some (.list (avN D)) ∧ σ'[1]? = some (.list (avN (acc ++ maskL n (liesL n D t)))) := by
  have hn := h.size.le
  have e1 := compE_seqM (N := 65536) (cap := [none, some 0, some 3]) (ρ := [some (.int (n : Nat)), some (.ref 0), some (.ref 1), some (.int (t : Nat)), x4]) (fun (p : Nat) => AV.int (p : Int)) (fun p => AV.int (((2 * n - 1 - p - t) % n : Nat) : Int)) (l := D) (f := varE 1) (σ := σ)
    (cs := [some (.int (n : Nat)), some (.int (t : Nat))]) (ef := binE modO (binE subO (binE subO (binE subO (varE 1) (valE (.int 1))) (varE 0)) (varE 2)) (varE 1)) rfl h0 (by have := h.l6; (first | lia | omega)) rfl fun p hp => by
      exact bin_at (bin_at (bin_at (bin_at rfl rfl rfl) rfl rfl) rfl rfl) rfl (modO_of h.size (lies_mod h.size (h.lt p hp) ht))
  have hl : (D.map fun p => AV.int (((2 * n - 1 - p - t) % n : Nat) : Int)) = avN (liesL n D t) := by
    unfold avN liesL
    rw [List.map_map]
    rfl
  rw [hl] at e1
  have e2 : law_backs_s2 [some (.int (n : Nat)), some (.ref 0), some (.ref 1), some (.int (t : Nat)), x4] σ = some (.next, [some (.int (n : Nat)), some (.ref 0), some (.ref 1), some (.int (t : Nat)), some (.ref σ.length)], σ ++ [.list (avN (liesL n D t))]) := asg_at e1
  have l1 := get_lt h1
  have e3 := compE_rngM (N := 65536) (cap := [none, some 4]) (ρ := [some (.int (n : Nat)), some (.ref 0), some (.ref 1), some (.int (t : Nat)), some (.ref σ.length)]) (fun x => if (liesL n D t).contains x = true then AV.int 1 else AV.int 0) (b := n)
    (fr := rngI (rngF (consEs (varE 0) nilEs))) (σ := σ ++ [.list (avN (liesL n D t))]) (cs := [some (.ref σ.length)]) (ef := ifE (cmpT inO (varE 0) (varE 1)) (valE (.int 1)) (valE (.int 0))) (rngI_to (by (first | lia | omega)) rfl) (by (first | lia | omega)) rfl fun x hx => by
      exact if_at (cmp_at rfl rfl (inO_at get_new)) rfl rfl
  have hm : ((List.range n).map fun x => if (liesL n D t).contains x = true then AV.int 1 else AV.int 0) = avN (maskL n (liesL n D t)) := by
    unfold avN maskL
    rw [List.map_map]
    apply List.map_congr_left
    intro x _
    show _ = AV.int (((if (liesL n D t).contains x = true then 1 else 0) : Nat) : Int)
    split <;> rfl
  rw [hm] at e3
  have g1 : ((σ ++ [AO.list (avN (liesL n D t))]) ++ [AO.list (avN (maskL n (liesL n D t)))])[1]? = some (.list (avN acc)) := get_old (get_old h1)
  have g0 : ((σ ++ [AO.list (avN (liesL n D t))]) ++ [AO.list (avN (maskL n (liesL n D t)))])[0]? = some (.list (avN D)) := get_old (get_old h0)
  have e4 := iaddO_at (i := 1) (j := (σ ++ [AO.list (avN (liesL n D t))]).length) (by rw [List.length_append]; show 1 ≠ σ.length + 1; (first | lia | omega)) g1 get_new (by rw [List.length_map, List.length_map, maskL_length]; (first | lia | omega))
  refine ⟨_, _, (seq_next e2).trans (seq_next (aug_at rfl e3 e4)), ?_, ?_⟩
  · rw [set_get_ne (by (first | lia | omega))]; exact g0
  · rw [set_get_eq g1, ← List.map_append]
theorem backs_f (h : Dat n D) {σ : St} {d : Nat} (hd : σ[d]? = some (.list (avN D))) : op_law_backs_f [.int (n : Nat), .ref d] σ = some (.bytes ((List.range D.length).flatMap fun t => maskL n (liesL n D t)), σ) := by
  have hn := h.size.le
  have h6 := h.l6
  have blen : ∀ t, t ≤ 6 → ((List.range t).flatMap fun t => maskL n (liesL n D t)).length ≤ 1000 := by
    intro t ht
    rw [List.length_flatMap]
    have : ((List.range t).map fun i => (maskL n (liesL n D i)).length) = List.replicate t n := by
      rw [List.eq_replicate_iff]
      refine ⟨by simp, fun b hb => ?_⟩
      obtain ⟨i, _, rfl⟩ := List.mem_map.mp hb
      exact maskL_length ..
    rw [this, List.sum_replicate_nat]
    have : t * n ≤ 6 * 31 := Nat.mul_le_mul ht hn.2
    (first | lia | omega)
  have e1 : law_backs_s1 [some (.int (n : Nat)), some (.ref 0), none, none, none] [.list (avN D)] = some (.next, [some (.int (n : Nat)), some (.ref 0), some (.ref 1), none, none], [.list (avN D), .list (avN [])]) :=
    asg_at (a := .ref 1) (lst_at (fs := nilEs) (as := []) rfl (Nat.zero_le _))
  have hlen : lenO [.ref 0] [AO.list (avN D), .list (avN [])] = some (.int (D.length : Nat), [AO.list (avN D), .list (avN [])]) := by
    have := lenO_list (σ := [AO.list (avN D), .list (avN [])]) (id := 0) (l := avN D) rfl (by rw [List.length_map]; (first | lia | omega))
    rwa [List.length_map] at this
  have hr : rngI (rngF (consEs (callE lenO (consEs (varE 1) nilEs)) nilEs)) [some (.int (n : Nat)), some (.ref 0), some (.ref 1), none, none] [AO.list (avN D), .list (avN [])] = some (.range 0 1 D.length, [AO.list (avN D), .list (avN [])]) := by
    have c : consEs (callE lenO (consEs (varE 1) nilEs)) nilEs [some (.int (n : Nat)), some (.ref 0), some (.ref 1), none, none] [AO.list (avN D), .list (avN [])] = some ([.int (D.length : Nat)], [AO.list (avN D), .list (avN [])]) := cons1_at (call_at (cons1_at rfl) hlen)
    unfold rngI rngF
    rw [c, Option.bind_some]
    dsimp only
    rw [Option.bind_some, rngIt_to (by (first | lia | omega))]
    rfl
  obtain ⟨ρ', σ', e2, ⟨x3, x4, rfl⟩, h0, h1⟩ := for_to (bf := law_backs_b1) (ef := skipS) (fuel := 65536) (v := 3) (b := D.length) (ρ := [some (.int (n : Nat)), some (.ref 0), some (.ref 1), none, none]) (σ0 := [AO.list (avN D), .list (avN [])]) (σ := [AO.list (avN D), .list (avN [])])
    (fun t ρ s => (∃ x3 x4, ρ = [some (.int (n : Nat)), some (.ref 0), some (.ref 1), x3, x4]) ∧ s[0]? = some (.list (avN D)) ∧ s[1]? = some (.list (avN ((List.range t).flatMap fun t => maskL n (liesL n D t))))) hr (by (first | lia | omega)) ⟨⟨_, _, rfl⟩, rfl, rfl⟩
    (fun t ht ρ s ⟨⟨x3, x4, hρ⟩, h0, h1⟩ => by
      subst hρ
      obtain ⟨y4, σ', e, g0, g1⟩ := backs_body (x4 := x4) h (t := t) (by (first | lia | omega)) h0 h1 (blen t (by (first | lia | omega)))
      refine ⟨_, _, e, ⟨_, _, rfl⟩, g0, ?_⟩
      rw [g1, flat_snoc])
  have hb := bytO_at h1 (fun x hx => by
    obtain ⟨l, _, hx⟩ := List.mem_flatMap.mp hx
    unfold maskL at hx
    obtain ⟨y, _, rfl⟩ := List.mem_map.mp hx
    split <;> (first | lia | omega)) (by have := blen D.length h6; (first | lia | omega))
  have e : op_law_backs_2 [.int (n : Nat), .ref 0] [.list (avN D)] = some (.bytes ((List.range D.length).flatMap fun t => maskL n (liesL n D t)), σ') := by
    unfold op_law_backs_2
    rw [plain_eq (show ([AV.int (n : Nat), AV.ref 0]).length = 2 from rfl)]
    refine callF_of (ρ := [some (.int (n : Nat)), some (.ref 0), none, none, none]) rfl (ρ' := [some (.int (n : Nat)), some (.ref 0), some (.ref 1), x3, x4]) ?_
    unfold law_backs_F
    rw [seq_next e1, seq_next e2]
    exact seq_ret (ret_at (call_at (cons1_at rfl) hb))
  have := frame1 (pre := [.int (n : Nat)]) (post := []) rfl rfl hd (nrs_avN D) e h0 (adopt_none (ids := [d]) (σ := σ) rfl)
  rw [List.append_nil] at this
  exact this
end
end Mine
end
section
set_option maxRecDepth 100000
namespace Mine
/-! comprehensions that make objects -/
theorem sub_one_add {b i : Nat} (h : i < b) : b - i = (b - (i + 1)) + 1 := by (first | lia | omega)
section
variable {ef : EF} {cap : List (Option Nat)} {ρ : Fm} {cs : List (Option AV)} {σ σ0 : St} {N : Nat}
theorem comp_to {fr : IF} {b : Nat} (I : Nat → List AV → St → Prop) (hf : fr ρ σ0 = some (.range 0 1 b, σ)) (hb : b < N) (hc : capρ cap ρ = none :: cs) (h0 : I 0 [] σ)
    (step : ∀ i, i < b → ∀ out s, I i out s → ∃ v s', ef (some (.int (i : Nat)) :: cs) s = some (v, s') ∧ I (i + 1) (out ++ [v]) s') :
    ∃ out s, compE false N cap fr (nameA 0) trueT ef ρ σ0 = some (.ref s.length, s ++ [.list out]) ∧ I b out s := by
  have hy : Yields false (fun _ => True) (.range 0 1 b) (rngVals 0 1 b) := yields_range b 0 1
  rw [rngVals_nat] at hy
  obtain ⟨zs, ρ', s, e, i, hi, ⟨x, hρ⟩, he, hI⟩ := comp_run (tf := nameA 0) (ts := trueT) (ef := ef) (fun as out ρ s => ∃ i, i ≤ b ∧ (∃ x, ρ = x :: cs) ∧ as = avN (List.range' i (b - i)) ∧ I i out s) (fun _ _ _ _ _ => trivial)
    (fun a as out ρ s ⟨i, hi, ⟨x, hρ⟩, ha, hI⟩ => by
      subst hρ
      have hib : i < b := by
        rcases Nat.lt_or_ge i b with h | h
        · exact h
        · rw [show b - i = 0 by (first | lia | omega)] at ha; cases ha
      rw [sub_one_add (by assumption), List.range'_succ] at ha
      cases ha
      obtain ⟨v, s', e, hI'⟩ := step i hib out s hI
      exact ⟨_, _, true, s, rfl, rfl, fun _ => ⟨v, s', e, i + 1, by (first | lia | omega), ⟨_, rfl⟩, rfl, hI'⟩, fun h => by cases h⟩)
    (avN (List.range b)) (.range 0 1 b) N [] (none :: cs) σ hy (by rwa [List.length_map, List.length_range]) ⟨0, Nat.zero_le _, ⟨_, rfl⟩, by rw [List.range_eq_range', Nat.sub_zero], h0⟩
  have hib : i = b := by
    rcases Nat.lt_or_ge i b with h | h
    · rw [sub_one_add (by assumption), List.range'_succ] at he; cases he
    · (first | lia | omega)
  subst hib
  refine ⟨zs, s, ?_, hI⟩
  unfold compE
  rw [hf, Option.bind_some, hc]
  dsimp only
  rw [e]
  rfl
theorem comp_in {α : Type} {f : EF} {id : Nat} {l : List α} (emb : α → AV) (I : List α → List AV → St → Prop) (hf : f ρ σ0 = some (.ref id, σ)) (hb : l.length < N) (hc : capρ cap ρ = none :: cs) (hP : ∀ done out s, I done out s → s[id]? = some (.list (l.map emb))) (h0 : I [] [] σ)
    (step : ∀ done a rest, l = done ++ a :: rest → ∀ out s, I done out s → ∃ v s', ef (some (emb a) :: cs) s = some (v, s') ∧ I (done ++ [a]) (out ++ [v]) s') :
    ∃ out s, compE false N cap (seqI f) (nameA 0) trueT ef ρ σ0 = some (.ref s.length, s ++ [.list out]) ∧ I l out s := by
  have hx := hP _ _ _ h0
  have hy : Yields false (fun s => s[id]? = some (.list (l.map emb))) (.list id 0) ((l.map emb).drop 0) := yields_list (fun s hs => hs) _ 0 (Nat.add_zero _)
  rw [List.drop_zero] at hy
  obtain ⟨zs, ρ', s, e, done, rest, hl, ⟨x, hρ⟩, he, hI⟩ := comp_run (tf := nameA 0) (ts := trueT) (ef := ef) (fun as out ρ s => ∃ done rest, l = done ++ rest ∧ (∃ x, ρ = x :: cs) ∧ as = rest.map emb ∧ I done out s) (fun as out ρ s ⟨done, rest, _, _, _, hI⟩ => hP done out s hI)
    (fun a as out ρ s ⟨done, rest, hl, ⟨x, hρ⟩, ha, hI⟩ => by
      subst hρ
      cases rest with
      | nil => cases ha
      | cons b rest =>
        rw [List.map_cons] at ha
        cases ha
        obtain ⟨v, s', e, hI'⟩ := step done b rest hl out s hI
        exact ⟨_, _, true, s, rfl, rfl, fun _ => ⟨v, s', e, done ++ [b], rest, by rw [hl, List.append_assoc]; rfl, ⟨_, rfl⟩, rfl, hI'⟩, fun h => by cases h⟩)
    (l.map emb) (.list id 0) N [] (none :: cs) σ hy (by rwa [List.length_map]) ⟨[], l, rfl, ⟨_, rfl⟩, rfl, h0⟩
  have hr : rest = [] := by
    cases rest with
    | nil => rfl
    | cons => cases he
  subst hr
  rw [List.append_nil] at hl
  subst hl
  refine ⟨zs, s, ?_, hI⟩
  have hs : seqI f ρ σ0 = some (.list id 0, σ) := by
    unfold seqI
    rw [hf, Option.bind_some]
    dsimp only
    rw [hx]
  unfold compE
  rw [hs, Option.bind_some, hc]
  dsimp only
  rw [e]
  rfl
end
theorem un_at {op : UF} {f : EF} {ρ : Fm} {σ σ1 : St} {a : AV} {r : Option (AV × St)} (h1 : f ρ σ = some (a, σ1)) (h2 : op a σ1 = r) : unE op f ρ σ = r := by unfold unE; rw [h1]; exact h2
/-! _law_common -/
noncomputable def turnOf (n T a b : Nat) : Nat := (4 * n - 1 - T - a - b) % n
noncomputable def commL (n : Nat) (D : List Nat) (T t a : Nat) (E : List Nat) : List Nat := (E.filter fun b => turnOf n T a b == t).map fun _ => (a + t) % n
noncomputable def commC (n : Nat) (D : List Nat) (T t : Nat) (A : List Nat) : List Nat := A.flatMap fun a => commL n D T t a D
section
variable {n : Nat} {D : List Nat}
theorem turn_cg {T a b : Nat} (hT : T < n) (ha : a < n) (hb : b < n) : Cg n (turnOf n T a b) (-1 - T - a - b) := by
  have := cg_mod n (4 * n - 1 - T - a - b)
  unfold turnOf
  generalize (4 * n - 1 - T - a - b) % n = z at this ⊢
  exact this.of 4 (by (first | lia | omega))
theorem turn_mod {T a b : Nat} (h : SizeOK n) (hT : T < n) (ha : a < n) (hb : b < n) : (-1 - (T : Int) - (a : Int) - (b : Int)) % (n : Int) = ((turnOf n T a b : Nat) : Int) := emod_cg (mod_lt' h) (turn_cg hT ha hb)
theorem commL_snoc {T t a b : Nat} {E : List Nat} : commL n D T t a (E ++ [b]) = if turnOf n T a b = t then commL n D T t a E ++ [(a + t) % n] else commL n D T t a E := by
  unfold commL
  rw [List.filter_append, List.map_append]
  by_cases h : turnOf n T a b = t
  · rw [if_pos h]
    have : (turnOf n T a b == t) = true := by simpa using h
    simp [this]
  · rw [if_neg h]
    have : (turnOf n T a b == t) = false := by simpa using h
    simp [this]
/-- the small state of _law_common: the lists of each turn -/
structure Cells (n : Nat) (D : List Nat) (c : Nat → List Nat) (s : St) : Prop where
  h0 : s[0]? = some (.list (avN D))
  hc : s[n + 1]? = some (.list (refsFrom 1 n))
  hr : ∀ t, t < n → s[1 + t]? = some (.list (avN (c t)))
  hl : s.length = n + 2
theorem common_body (h : Dat n D) {T a b : Nat} (hT : T < n) (ha : a < n) (hb : b < n) {c : Nat → List Nat} (hcl : ∀ t, t < n → (c t).length ≤ 1000) {s : St} (S : Cells n D c s) {x6 : Option AV} :
    ∃ s', law_common_b1 [some (.int (n : Nat)), some (.ref 0), some (.int (T : Nat)), some (.ref (n + 1)), some (.int (a : Nat)), some (.int (b : Nat)), x6] s =
      some (.next, [some (.int (n : Nat)), some (.ref 0), some (.int (T : Nat)), some (.ref (n + 1)), some (.int (a : Nat)), some (.int (b : Nat)), some (.int (turnOf n T a b : Nat))], s') ∧
      Cells n D (fun t => if turnOf n T a b = t then c t ++ [(a + t) % n] else c t) s' := by
  have hn := h.size.le
  have ht : turnOf n T a b < n := Nat.mod_lt _ (by (first | lia | omega))
  have e1 : law_common_s2 [some (.int (n : Nat)), some (.ref 0), some (.int (T : Nat)), some (.ref (n + 1)), some (.int (a : Nat)), some (.int (b : Nat)), x6] s =
      some (.next, [some (.int (n : Nat)), some (.ref 0), some (.int (T : Nat)), some (.ref (n + 1)), some (.int (a : Nat)), some (.int (b : Nat)), some (.int (turnOf n T a b : Nat))], s) :=
    asg_at (bin_at (bin_at (bin_at (bin_at (un_at rfl rfl) rfl rfl) rfl rfl) rfl rfl) rfl (modO_of h.size (turn_mod h.size hT ha hb)))
  generalize turnOf n T a b = t at ht e1 ⊢
  have g1 : getO (.ref (n + 1)) (.int (t : Nat)) s = some (.ref (1 + t), s) := getO_list S.hc (by simp [refsFrom]; (first | lia | omega)) (by
    unfold refsFrom
    rw [List.getElem?_map, List.getElem?_range ht]; rfl)
  have hct := S.hr t ht
  have m1 : modO (.int ((a + t : Nat) : Int)) (.int (n : Nat)) s = some (.int (((a + t) % n : Nat) : Int), s) := modO_nat (by (first | lia | omega))
  have ap := appO_at (x := .int (((a + t) % n : Nat) : Int)) hct (by rw [List.length_map]; have := hcl t ht; (first | lia | omega))
  have e2 : law_common_s3 [some (.int (n : Nat)), some (.ref 0), some (.int (T : Nat)), some (.ref (n + 1)), some (.int (a : Nat)), some (.int (b : Nat)), some (.int (t : Nat))] s =
      some (.next, [some (.int (n : Nat)), some (.ref 0), some (.int (T : Nat)), some (.ref (n + 1)), some (.int (a : Nat)), some (.int (b : Nat)), some (.int (t : Nat))], s.set (1 + t) (.list (avN (c t) ++ [.int (((a + t) % n : Nat) : Int)]))) :=
    expr_at (meth_at (bin_at rfl rfl g1) (okL_at hct) (cons1_at (bin_at (bin_at rfl rfl rfl) rfl m1)) ap)
  refine ⟨_, (seq_next e1).trans (seq_next e2), ?_, ?_, fun u hu => ?_, ?_⟩
  · rw [set_get_ne (by (first | lia | omega))]; exact S.h0
  · rw [set_get_ne (by (first | lia | omega))]; exact S.hc
  · by_cases hut : t = u
    · subst hut
      rw [set_get_eq hct, if_pos rfl]
      unfold avN
      rw [List.map_append]
      rfl
    · rw [set_get_ne (by (first | lia | omega)), S.hr u hu, if_neg hut]
  · rw [List.length_set]; exact S.hl
theorem commL_len {T t a : Nat} {E : List Nat} : (commL n D T t a E).length ≤ E.length := by
  unfold commL
  rw [List.length_map]
  exact List.length_filter_le ..
theorem commC_len {T t : Nat} : ∀ {A : List Nat}, (commC n D T t A).length ≤ A.length * D.length
  | [] => by simp [commC]
  | a :: A => by
    have := commC_len (T := T) (t := t) (A := A)
    have h2 := commL_len (n := n) (D := D) (T := T) (t := t) (a := a) (E := D)
    show (commL n D T t a D ++ commC n D T t A).length ≤ _
    rw [List.length_append, List.length_cons, Nat.add_mul, Nat.one_mul]
    (first | lia | omega)
theorem common_inner (h : Dat n D) {T a : Nat} (hT : T < n) (ha : a < n) {c : Nat → List Nat} (hcl : ∀ t, t < n → (c t).length ≤ 100) {s : St} (S : Cells n D c s) {x5 x6 : Option AV} :
    ∃ y5 y6 s', law_common_b2 [some (.int (n : Nat)), some (.ref 0), some (.int (T : Nat)), some (.ref (n + 1)), some (.int (a : Nat)), x5, x6] s =
      some (.next, [some (.int (n : Nat)), some (.ref 0), some (.int (T : Nat)), some (.ref (n + 1)), some (.int (a : Nat)), y5, y6], s') ∧ Cells n D (fun t => c t ++ commL n D T t a D) s' := by
  obtain ⟨ρ', s', e, ⟨y5, y6, rfl⟩, S'⟩ := for_in (bf := law_common_b1) (ef := skipS) (f := varE 1) (v := 5) (fuel := 65536) (ρ := [some (.int (n : Nat)), some (.ref 0), some (.int (T : Nat)), some (.ref (n + 1)), some (.int (a : Nat)), x5, x6]) (σ := s) (σ0 := s) (l := D) (id := 0) (fun (p : Nat) => AV.int (p : Int))
    (fun done ρ s => (∃ x5 x6, ρ = [some (.int (n : Nat)), some (.ref 0), some (.int (T : Nat)), some (.ref (n + 1)), some (.int (a : Nat)), x5, x6]) ∧ Cells n D (fun t => c t ++ commL n D T t a done) s) rfl (by have := h.l6; (first | lia | omega)) (fun done ρ s ⟨_, S⟩ => S.h0)
    ⟨⟨_, _, rfl⟩, by
      have : (fun t => c t ++ commL n D T t a []) = c := by
        funext t
        exact List.append_nil _
      rw [this]; exact S⟩
    (fun done b rest hd ρ s ⟨⟨x5, x6, hρ⟩, S⟩ => by
      subst hρ
      have hb : b < n := h.lt b (by rw [hd]; simp)
      have hdl : done.length ≤ 6 := by
        have := h.l6
        rw [hd] at this
        simp at this
        (first | lia | omega)
      obtain ⟨s', e, S'⟩ := common_body h hT ha hb (fun t ht => by
        have h1 := hcl t ht
        have h2 := commL_len (n := n) (D := D) (T := T) (t := t) (a := a) (E := done)
        rw [List.length_append]
        (first | lia | omega)) S (x6 := x6)
      refine ⟨_, _, e, ⟨_, _, rfl⟩, ?_⟩
      have : (fun t => if turnOf n T a b = t then (c t ++ commL n D T t a done) ++ [(a + t) % n] else c t ++ commL n D T t a done) = fun t => c t ++ commL n D T t a (done ++ [b]) := by
        funext t
        rw [commL_snoc]
        by_cases h : turnOf n T a b = t
        · rw [if_pos h, if_pos h, List.append_assoc]
        · rw [if_neg h, if_neg h]
      rw [← this]
      exact S')
  exact ⟨y5, y6, s', seq_next e, S'⟩
/-- sorted lists of naturals -/
noncomputable def sortN (l : List Nat) : List Nat := (sortI (l.map fun (n : Nat) => (n : Int))).map Int.toNat
theorem sortedO_at {σ : St} {id : Nat} {l : List Nat} (h : σ[id]? = some (.list (avN l))) (hl : l.length < 64) : sortedO [.ref id] σ = some (.ref σ.length, σ ++ [.list (avN (sortN l))]) := by
  unfold sortedO
  dsimp only
  rw [h]
  dsimp only
  rw [intsOf_avN]
  dsimp only
  rw [if_pos (by rwa [List.length_map])]
  congr 5
  unfold avN sortN
  rw [List.map_map]
  apply List.map_congr_left
  intro x hx
  have hm := (sortI_perm _).mem_iff.mp hx
  obtain ⟨y, _, rfl⟩ := List.mem_map.mp hm
  show AV.int (y : Int) = AV.int (((y : Int).toNat : Nat) : Int)
  rw [Int.toNat_natCast]
theorem sortN_eq {l m : List Nat} (hp : m.Perm l) (hs : m.Pairwise (· ≤ ·)) : sortN l = m := by
  unfold sortN
  rw [← sorted_unique (l := m.map fun (n : Nat) => (n : Int)) (hp.map _) (by
    rw [List.pairwise_map]
    exact hs.imp fun h => by (first | lia | omega)), List.map_map, toNat_map]
theorem common_s1 (h : Dat n D) {T : Nat} : ∃ s, law_common_s1 [some (.int (n : Nat)), some (.ref 0), some (.int (T : Nat)), none, none, none, none] [.list (avN D)] =
    some (.next, [some (.int (n : Nat)), some (.ref 0), some (.int (T : Nat)), some (.ref (n + 1)), none, none, none], s) ∧ Cells n D (fun _ => []) s := by
  have hn := h.size.le
  obtain ⟨out, s, e, ho, hl, h0, hr⟩ := comp_to (N := 65536) (cap := [none]) (ef := lstE nilEs) (fr := rngI (rngF (consEs (varE 0) nilEs))) (ρ := [some (.int (n : Nat)), some (.ref 0), some (.int (T : Nat)), none, none, none, none]) (σ0 := [AO.list (avN D)]) (σ := [AO.list (avN D)]) (cs := []) (b := n)
    (fun i out s => out = refsFrom 1 i ∧ s.length = 1 + i ∧ s[0]? = some (.list (avN D)) ∧ ∀ t, t < i → s[1 + t]? = some (.list (avN []))) (rngI_to (by (first | lia | omega)) rfl) (by (first | lia | omega)) rfl ⟨rfl, rfl, rfl, fun t ht => absurd ht (Nat.not_lt_zero _)⟩
    (fun i hi out s ⟨ho, hl, h0, hr⟩ => by
      refine ⟨_, _, lst_at rfl (Nat.zero_le _), ?_, ?_, get_old h0, fun t ht => ?_⟩
      · rw [ho, hl]
        unfold refsFrom
        rw [List.range_succ, List.map_append]
        rfl
      · rw [List.length_append, hl]
        show 1 + i + 1 = _
        (first | lia | omega)
      · by_cases hti : t = i
        · subst hti
          rw [← hl]
          exact get_new
        · exact get_old (hr t (by (first | lia | omega))))
  refine ⟨s ++ [.list (refsFrom 1 n)], ?_, ?_⟩
  · rw [hl, ho, Nat.add_comm 1 n] at e
    exact asg_at e
  · refine ⟨get_old h0, ?_, fun t ht => get_old (hr t ht), ?_⟩
    · rw [show n + 1 = s.length by (first | lia | omega)]; exact get_new
    · rw [List.length_append, hl]
      show 1 + n + 1 = _
      (first | lia | omega)
theorem common_spec (h : Dat n D) {T : Nat} (hT : T < n) : ∃ σ', op_law_common_3 [.int (n : Nat), .ref 0, .int (T : Nat)] [.list (avN D)] = some (.ref (2 * n + 2), σ') ∧ σ'[0]? = some (.list (avN D)) ∧ σ'[2 * n + 2]? = some (.list (((List.range n).map fun i => n + 2 + i).map .ref)) ∧
    ∀ t, t < n → σ'[n + 2 + t]? = some (.list (avN (sortN (commC n D T t D)))) := by
  have hn := h.size.le
  obtain ⟨s1, e1, S1⟩ := common_s1 h (T := T)
  have hcl : ∀ (A : List Nat) t, A.length ≤ 6 → (commC n D T t A).length ≤ 36 := fun A t hA => by
    have h1 := commC_len (n := n) (D := D) (T := T) (t := t) (A := A)
    have h2 : A.length * D.length ≤ 6 * 6 := Nat.mul_le_mul hA h.l6
    (first | lia | omega)
  obtain ⟨ρ', s2, e2, ⟨y4, y5, y6, rfl⟩, S2⟩ := for_in (bf := law_common_b2) (ef := skipS) (f := varE 1) (v := 4) (fuel := 65536) (ρ := [some (.int (n : Nat)), some (.ref 0), some (.int (T : Nat)), some (.ref (n + 1)), none, none, none]) (σ := s1) (σ0 := s1) (l := D) (id := 0) (fun (p : Nat) => AV.int (p : Int))
    (fun done ρ s => (∃ x4 x5 x6, ρ = [some (.int (n : Nat)), some (.ref 0), some (.int (T : Nat)), some (.ref (n + 1)), x4, x5, x6]) ∧ Cells n D (fun t => commC n D T t done) s) rfl (by have := h.l6; (first | lia | omega)) (fun done ρ s ⟨_, S⟩ => S.h0)
    ⟨⟨_, _, _, rfl⟩, S1⟩
    (fun done a rest hd ρ s ⟨⟨x4, x5, x6, hρ⟩, S⟩ => by
      subst hρ
      have ha : a < n := h.lt a (by rw [hd]; simp)
      have hdl : done.length ≤ 6 := by
        have := h.l6
        rw [hd] at this
        simp at this
        (first | lia | omega)
      obtain ⟨y5, y6, s', e, S'⟩ := common_inner h hT ha (fun t _ => Nat.le_trans (hcl done t hdl) (by (first | lia | omega))) S (x5 := x5) (x6 := x6)
      refine ⟨_, _, e, ⟨_, _, _, rfl⟩, ?_⟩
      have : (fun t => commC n D T t done ++ commL n D T t a D) = fun t => commC n D T t (done ++ [a]) := by
        funext t
        unfold commC
        rw [List.flatMap_append]
        simp
      rw [← this]
      exact S')
  obtain ⟨out, s3, e3, ho, hl, h0, hk, hr⟩ := comp_in (N := 65536) (cap := [none]) (ef := callE sortedO (consEs (varE 0) nilEs)) (f := varE 3) (id := n + 1) (ρ := [some (.int (n : Nat)), some (.ref 0), some (.int (T : Nat)), some (.ref (n + 1)), y4, y5, y6]) (σ0 := s2) (σ := s2) (cs := []) (l := List.range n) (fun i => AV.ref (1 + i))
    (fun done out s => out = (done.map fun i => n + 2 + i).map .ref ∧ s.length = n + 2 + done.length ∧ s[0]? = some (.list (avN D)) ∧ (∀ j, j < n + 2 → s[j]? = s2[j]?) ∧ ∀ t, t < done.length → s[n + 2 + t]? = some (.list (avN (sortN (commC n D T t D))))) rfl (by rw [List.length_range]; (first | lia | omega)) rfl
    (fun done out s ⟨_, _, _, hk, _⟩ => by rw [hk (n + 1) (by (first | lia | omega))]; exact S2.hc) ⟨rfl, S2.hl, S2.h0, fun _ _ => rfl, fun t ht => absurd ht (Nat.not_lt_zero _)⟩
    (fun done a rest hd out s ⟨ho, hl, h0, hk, hr⟩ => by
      obtain ⟨ha, hda, han⟩ := range_split hd
      have hc : s[1 + a]? = some (.list (avN (commC n D T a D))) := by rw [hk (1 + a) (by (first | lia | omega))]; exact S2.hr a han
      have so := sortedO_at hc (by have := hcl D a h.l6; (first | lia | omega))
      refine ⟨_, _, call_at (cons1_at rfl) so, ?_, ?_, get_old h0, fun j hj => ?_, fun t ht => ?_⟩
      · rw [ho, hl, ← ha]
        simp
      · rw [List.length_append, List.length_append, hl]
        show _ + 1 = _ + (_ + 1)
        (first | lia | omega)
      · rw [List.getElem?_append_left (by (first | lia | omega))]; exact hk j hj
      · rw [List.length_append] at ht
        by_cases hta : t = done.length
        · rw [hta, ← hl, get_new, ha]
        · exact get_old (hr t (by simp at ht; (first | lia | omega))))
  rw [List.length_range] at hl hr
  refine ⟨s3 ++ [.list out], ?_, get_old h0, ?_, fun t ht => get_old (hr t ht)⟩
  · unfold op_law_common_3
    rw [plain_eq (show ([AV.int (n : Nat), AV.ref 0, AV.int (T : Nat)]).length = 3 from rfl)]
    refine callF_of (ρ := [some (.int (n : Nat)), some (.ref 0), some (.int (T : Nat)), none, none, none, none]) rfl (ρ' := [some (.int (n : Nat)), some (.ref 0), some (.int (T : Nat)), some (.ref (n + 1)), y4, y5, y6]) ?_
    unfold law_common_F
    rw [seq_next e1, seq_next e2]
    rw [show 2 * n + 2 = s3.length by (first | lia | omega)]
    exact seq_ret (ret_at e3)
  · rw [show 2 * n + 2 = s3.length by (first | lia | omega), get_new, ho]
theorem common_f (h : Dat n D) {T : Nat} (hT : T < n) {σ : St} {d : Nat} (hd : σ[d]? = some (.list (avN D))) : op_law_common_f [.int (n : Nat), .ref d, .int (T : Nat)] σ =
    some (.ref σ.length, σ ++ (.list (refsFrom (σ.length + 1) n) :: (List.range n).map fun i => .list (avN (sortN (commC n D T i D))))) := by
  obtain ⟨σ1, e, h0, h2, hc⟩ := common_spec h hT
  have hn := h.size.le
  have hnd : ((2 * n + 2) :: (List.range n).map fun i => n + 2 + i).Nodup := by
    refine List.nodup_cons.mpr ⟨fun hm => ?_, ?_⟩
    · obtain ⟨i, hi, e⟩ := List.mem_map.mp hm
      have := List.mem_range.mp hi
      (first | lia | omega)
    · have := List.nodup_range (n := n)
      unfold List.Nodup at this ⊢
      rw [List.pairwise_map]
      exact this.imp fun hab he => hab (by (first | lia | omega))
  have ad := adopt_rows (ids := [d]) (σ := σ) (j := 2 * n + 2) (σ1 := σ1) (ks := (List.range n).map fun i => n + 2 + i) (c := fun k => avN (sortN (commC n D T (k - (n + 2)) D))) (by simp) hnd (fun k hk => by
    obtain ⟨i, _, rfl⟩ := List.mem_map.mp hk
    simp; (first | lia | omega)) h2 (fun k hk => by
    obtain ⟨i, hi, rfl⟩ := List.mem_map.mp hk
    rw [hc i (List.mem_range.mp hi)]
    refine ⟨?_, nrs_avN _⟩
    rw [show n + 2 + i - (n + 2) = i by (first | lia | omega)])
  have := frame1 (pre := [.int (n : Nat)]) (post := [.int (T : Nat)]) rfl rfl hd (nrs_avN D) e h0 ad
  rw [List.length_map, List.length_range, List.map_map] at this
  have hm : (List.range n).map ((fun k => AO.list (avN (sortN (commC n D T (k - (n + 2)) D)))) ∘ fun i => n + 2 + i) = (List.range n).map fun i => AO.list (avN (sortN (commC n D T i D))) := by
    apply List.map_congr_left
    intro i _
    show AO.list (avN (sortN (commC n D T (n + 2 + i - (n + 2)) D))) = _
    rw [show n + 2 + i - (n + 2) = i by (first | lia | omega)]
  rw [hm] at this
  exact this
end
end Mine
end
section
set_option maxRecDepth 100000
namespace Mine
/-! what the walk makes, told by places -/
section
variable {n : Nat} {D : List Nat}
noncomputable abbrev shareL (n : Nat) (D : List Nat) (T t : Nat) : List Nat := (lineN n D t).filter fun x => (liesL n D T).contains x
theorem mem_liesL {T x : Nat} : x ∈ liesL n D T ↔ ∃ b ∈ D, (2 * n - 1 - b - T) % n = x := List.mem_map
theorem mem_shareL {T t x : Nat} : x ∈ shareL n D T t ↔ x < n ∧ (∃ a ∈ D, (a + t) % n = x) ∧ ∃ b ∈ D, (2 * n - 1 - b - T) % n = x := by
  unfold shareL
  rw [List.mem_filter, mem_lineN, List.contains_iff_mem, mem_liesL, and_assoc]
theorem turn_iff {T t a b : Nat} (h : SizeOK n) (hT : T < n) (ht : t < n) (ha : a < n) (hb : b < n) : turnOf n T a b = t ↔ (2 * n - 1 - b - T) % n = (a + t) % n := by
  have c1 := turn_cg hT ha hb
  have c2 := lies_cg hb hT
  have c3 := cg_mod n (a + t)
  constructor
  · intro e
    rw [e] at c1
    exact cg_eq (mod_lt' h) (mod_lt' h) (c2.trans ((c3.add c1).symm.of 0 (by (first | lia | omega))))
  · intro e
    rw [e] at c2
    exact cg_eq (mod_lt' h) ht (c1.trans ((c2.symm.trans c3).of 0 (by (first | lia | omega))))
theorem turn_inj {T a b c : Nat} (h : SizeOK n) (hT : T < n) (ha : a < n) (hb : b < n) (hc : c < n) (e : turnOf n T a b = turnOf n T a c) : b = c :=
  cg_eq hb hc ((((turn_cg hT ha hc).symm.trans (cg_of_eq e.symm)).trans (turn_cg hT ha hb)).of 0 (by (first | lia | omega)))
theorem mem_commL {T t a x : Nat} {E : List Nat} : x ∈ commL n D T t a E ↔ (∃ b ∈ E, turnOf n T a b = t) ∧ (a + t) % n = x := by
  unfold commL
  rw [List.mem_map]
  constructor
  · rintro ⟨b, hb, e⟩
    obtain ⟨h1, h2⟩ := List.mem_filter.mp hb
    exact ⟨⟨b, h1, eq_of_beq h2⟩, e⟩
  · rintro ⟨⟨b, hb, e⟩, h⟩
    exact ⟨b, List.mem_filter.mpr ⟨hb, by rw [e]; exact beq_self_eq_true _⟩, h⟩
theorem nodup_const {α β : Type} {l : List α} {c : β} (hn : l.Nodup) (he : ∀ x ∈ l, ∀ y ∈ l, x = y) : (l.map fun _ => c).Nodup := by
  match l, hn, he with
  | [], _, _ => exact List.nodup_nil
  | [a], _, _ => exact List.pairwise_singleton ..
  | a :: b :: l, hn, he =>
    have := he a (by simp) b (by simp)
    exact absurd (this ▸ List.mem_cons_self .. : a ∈ b :: l) (List.nodup_cons.mp hn).1
theorem commL_nodup (h : Dat n D) {T t a : Nat} (hT : T < n) (ha : a < n) : (commL n D T t a D).Nodup := by
  unfold commL
  refine nodup_const (List.Pairwise.filter _ h.nd) fun x hx y hy => ?_
  obtain ⟨h1, h2⟩ := List.mem_filter.mp hx
  obtain ⟨h3, h4⟩ := List.mem_filter.mp hy
  exact turn_inj h.size hT ha (h.lt x h1) (h.lt y h3) ((eq_of_beq h2).trans (eq_of_beq h4).symm)
theorem commC_nodup (h : Dat n D) {T t : Nat} (hT : T < n) : ∀ {A : List Nat}, A.Nodup → (∀ a ∈ A, a < n) → (commC n D T t A).Nodup
  | [], _, _ => List.nodup_nil
  | a :: A, hA, hl => by
    have h2 := List.nodup_cons.mp hA
    show (commL n D T t a D ++ commC n D T t A).Nodup
    rw [List.nodup_append]
    refine ⟨commL_nodup h hT (hl a (List.mem_cons_self ..)), commC_nodup h hT h2.2 fun b hb => hl b (List.mem_cons_of_mem _ hb), fun x hx y hy he => ?_⟩
    obtain ⟨c, hc, hy⟩ := List.mem_flatMap.mp hy
    have e1 := (mem_commL.mp hx).2
    have e2 := (mem_commL.mp hy).2
    have := mod_cancel t h.size (hl a (List.mem_cons_self ..)) (hl c (List.mem_cons_of_mem _ hc)) (by rw [e1, e2, he])
    exact h2.1 (this ▸ hc)
theorem common_eq (h : Dat n D) {T t : Nat} (hT : T < n) (ht : t < n) : sortN (commC n D T t D) = shareL n D T t := by
  have hs : (shareL n D T t).Pairwise (· < ·) := List.Pairwise.filter _ (List.Pairwise.filter _ List.pairwise_lt_range)
  refine sortN_eq ?_ (hs.imp fun h => Nat.le_of_lt h)
  rw [List.perm_ext_iff_of_nodup (hs.imp fun h => Nat.ne_of_lt h) (commC_nodup h hT h.nd h.lt)]
  intro x
  rw [mem_shareL]
  constructor
  · rintro ⟨_, ⟨a, ha, e1⟩, b, hb, e2⟩
    refine List.mem_flatMap.mpr ⟨a, ha, mem_commL.mpr ⟨⟨b, hb, ?_⟩, e1⟩⟩
    rw [turn_iff h.size hT ht (h.lt a ha) (h.lt b hb), e1, e2]
  · intro hx
    obtain ⟨a, ha, hx⟩ := List.mem_flatMap.mp hx
    obtain ⟨⟨b, hb, e⟩, e1⟩ := mem_commL.mp hx
    rw [turn_iff h.size hT ht (h.lt a ha) (h.lt b hb)] at e
    refine ⟨?_, ⟨a, ha, e1⟩, b, hb, e.trans e1⟩
    rw [← e1]
    exact Nat.mod_lt _ (by have := h.size.le; (first | lia | omega))
/-- a row of the marks, turned about, is the row of the backs -/
theorem back_iff {t x p : Nat} (h : SizeOK n) (ht : t < n) (hx : x < n) (hp : p < n) : (p + t) % n = n - 1 - x ↔ (2 * n - 1 - p - t) % n = x := by
  have c1 := cg_mod n (p + t)
  have c2 := lies_cg hp ht
  constructor
  · intro e
    rw [e] at c1
    exact cg_eq (mod_lt' h) hx (c2.trans (c1.of (-1) (by (first | lia | omega))))
  · intro e
    rw [e] at c2
    exact cg_eq (mod_lt' h) (by (first | lia | omega)) (c1.trans (c2.of (-1) (by (first | lia | omega))))
theorem row_back (h : Dat n D) {t : Nat} (ht : t < n) : (maskL n (lineN n D t)).reverse = maskL n (liesL n D t) := by
  apply List.ext_getElem?
  intro i
  by_cases hi : i < n
  · have hl : (maskL n (lineN n D t)).length = n := maskL_length ..
    rw [List.getElem?_reverse (by (first | lia | omega)), hl]
    unfold maskL
    rw [List.getElem?_map, List.getElem?_map, List.getElem?_range hi, List.getElem?_range (show n - 1 - i < n by (first | lia | omega))]
    show some (if (lineN n D t).contains (n - 1 - i) = true then 1 else 0) = some (if (liesL n D t).contains i = true then 1 else 0)
    congr 2
    rw [List.contains_iff_mem, List.contains_iff_mem, mem_lineN, mem_liesL, eq_iff_iff]
    constructor
    · rintro ⟨_, p, hp, e⟩
      exact ⟨p, hp, (back_iff h.size ht hi (h.lt p hp)).mp e⟩
    · rintro ⟨p, hp, e⟩
      exact ⟨by (first | lia | omega), p, hp, (back_iff h.size ht hi (h.lt p hp)).mpr e⟩
  · rw [List.getElem?_eq_none (by rw [List.length_reverse, maskL_length]; (first | lia | omega)), List.getElem?_eq_none (by rw [maskL_length]; (first | lia | omega))]
end
end Mine
end
section
set_option maxRecDepth 100000
namespace Mine
/-! bisect_left without a key -/
structure PlaceL (σ : St) (xs : List AV) (x : AV) (pos : Nat) : Prop where
  le : pos ≤ xs.length
  lo : ∀ (i : Nat) a, xs[i]? = some a → i < pos → ltO a x σ = some (.bool true, σ)
  hi : ∀ (i : Nat) a, xs[i]? = some a → pos ≤ i → ltO a x σ = some (.bool false, σ)
section
variable {σ : St} {id : Nat} {xs : List AV} {x : AV} {pos : Nat}
theorem bisl_body {lo hi : Nat} {r4 y : Option AV} (h : σ[id]? = some (.list xs)) (hl : xs.length ≤ 65000) (P : PlaceL σ xs x pos) (h1 : lo < hi) (h2 : hi ≤ xs.length) :
    bisect_left_b1 [some (.ref id), some x, some (.int (lo : Nat)), some (.int (hi : Nat)), r4, y] σ =
      some (.next, if (lo + hi) / 2 < pos then [some (.ref id), some x, some (.int (((lo + hi) / 2 + 1 : Nat) : Int)), some (.int (hi : Nat)), r4, some (.int (((lo + hi) / 2 : Nat) : Int))]
        else [some (.ref id), some x, some (.int (lo : Nat)), some (.int (((lo + hi) / 2 : Nat) : Int)), r4, some (.int (((lo + hi) / 2 : Nat) : Int))], σ) := by
  have a1 : addO (.int (lo : Nat)) (.int (hi : Nat)) σ = some (.int ((lo + hi : Nat) : Int), σ) := rfl
  have m1 := mid_nat lo hi σ
  have hm : (lo + hi) / 2 < xs.length := by (first | lia | omega)
  generalize (lo + hi) / 2 = mid at *
  have ha : xs[mid]? = some xs[mid] := List.getElem?_eq_getElem hm
  have g1 := getO_list (i := mid) h hl ha
  have a2 : addO (.int (mid : Nat)) (.int 1) σ = some (.int ((mid + 1 : Nat) : Int), σ) := rfl
  by_cases hp : mid < pos
  · rw [if_pos hp]
    simp only [bisect_left_b1, bisect_left_s2, bisect_left_s3, bisect_left_s4, seqS, skipS, asgS, ifS, cmpT, binE, varE, valE, Fm.get, Fm.put, List.getD_cons_zero, List.getD_cons_succ, List.set_cons_succ, List.set_cons_zero, Option.map_some, Option.bind_some, a1, m1, g1, P.lo mid _ ha hp, a2]
    rfl
  · rw [if_neg hp]
    simp only [bisect_left_b1, bisect_left_s2, bisect_left_s3, bisect_left_s4, seqS, skipS, asgS, ifS, cmpT, binE, varE, valE, Fm.get, Fm.put, List.getD_cons_zero, List.getD_cons_succ, List.set_cons_succ, List.set_cons_zero, Option.map_some, Option.bind_some, a1, m1, g1, P.hi mid _ ha (by (first | lia | omega))]
    rfl
theorem bisl_stop {lo hi fuel : Nat} {r4 y : Option AV} (h2 : 0 < fuel) (hlt : ¬ lo < hi) (h3 : lo ≤ pos) (h4 : pos ≤ hi) :
    whileGo (cmpT ltO (varE 2) (varE 3)) bisect_left_b1 skipS fuel [some (.ref id), some x, some (.int (lo : Nat)), some (.int (hi : Nat)), r4, y] σ = some (.next, [some (.ref id), some x, some (.int (pos : Nat)), some (.int (pos : Nat)), r4, y], σ) := by
  obtain ⟨m, rfl⟩ : ∃ m, fuel = m + 1 := ⟨fuel - 1, by (first | lia | omega)⟩
  have ht : cmpT ltO (varE 2) (varE 3) [some (.ref id), some x, some (.int (lo : Nat)), some (.int (hi : Nat)), r4, y] σ = some (false, σ) := bis_test.trans (by rw [decide_eq_false hlt])
  rw [while_false ht]
  have e1 : lo = pos := by (first | lia | omega)
  have e2 : hi = pos := by (first | lia | omega)
  rw [e1, e2]
  rfl
theorem bisl_loop {r4 : Option AV} (h : σ[id]? = some (.list xs)) (hl : xs.length ≤ 65000) (P : PlaceL σ xs x pos) : ∀ (n lo hi fuel : Nat) (y : Option AV), hi - lo ≤ n → n < fuel → lo ≤ pos → pos ≤ hi → hi ≤ xs.length →
    ∃ y', whileGo (cmpT ltO (varE 2) (varE 3)) bisect_left_b1 skipS fuel [some (.ref id), some x, some (.int (lo : Nat)), some (.int (hi : Nat)), r4, y] σ = some (.next, [some (.ref id), some x, some (.int (pos : Nat)), some (.int (pos : Nat)), r4, y'], σ) := by
  intro n
  induction n with
  | zero => exact fun lo hi fuel y h1 h2 h3 h4 h5 => ⟨y, bisl_stop h2 (by (first | lia | omega)) h3 h4⟩
  | succ n ih =>
    intro lo hi fuel y h1 h2 h3 h4 h5
    by_cases hlt : lo < hi
    · obtain ⟨m, rfl⟩ : ∃ m, fuel = m + 1 := ⟨fuel - 1, by (first | lia | omega)⟩
      have hb := bisl_body (r4 := r4) (y := y) h hl P hlt h5
      have ht : cmpT ltO (varE 2) (varE 3) [some (.ref id), some x, some (.int (lo : Nat)), some (.int (hi : Nat)), r4, y] σ = some (true, σ) := bis_test.trans (by rw [decide_eq_true hlt])
      rw [while_true ht hb]
      obtain ⟨k1, k2, k3⟩ := half_lo h1 hlt
      by_cases hp : (lo + hi) / 2 < pos
      · rw [if_pos hp]
        exact ih ((lo + hi) / 2 + 1) hi m _ k1 (Nat.lt_of_succ_lt_succ h2) hp h4 h5
      · rw [if_neg hp]
        exact ih lo ((lo + hi) / 2) m _ k2 (Nat.lt_of_succ_lt_succ h2) h3 (Nat.le_of_not_lt hp) (Nat.le_trans k3 h5)
    · exact ⟨y, bisl_stop (Nat.lt_of_le_of_lt (Nat.zero_le _) h2) hlt h3 h4⟩
theorem bisl_spec (h : σ[id]? = some (.list xs)) (hl : xs.length ≤ 65000) (P : PlaceL σ xs x pos) : op_bisect_left_2 [.ref id, x] σ = some (.int (pos : Nat), σ) := by
  have l1 := lenO_list h (by (first | lia | omega))
  have s1 : ifS (cmpT ltO (varE 2) (valE (.int 0))) (seqS noneS skipS) skipS [some (.ref id), some x, some (.int ((0 : Nat) : Int)), some (.con .none), some (.con .none), none] σ = some (.next, [some (.ref id), some x, some (.int ((0 : Nat) : Int)), some (.con .none), some (.con .none), none], σ) := rfl
  have s2 : ifS (cmpT isO (varE 3) (valE (.con .none))) (seqS bisect_left_s1 skipS) skipS [some (.ref id), some x, some (.int ((0 : Nat) : Int)), some (.con .none), some (.con .none), none] σ =
      some (.next, [some (.ref id), some x, some (.int ((0 : Nat) : Int)), some (.int (xs.length : Nat)), some (.con .none), none], σ) := by
    have t1 : cmpT isO (varE 3) (valE (.con .none)) [some (.ref id), some x, some (.int ((0 : Nat) : Int)), some (.con .none), some (.con .none), none] σ = some (true, σ) := rfl
    simp only [ifS, t1, Option.bind_some, if_true, bisect_left_s1, seqS, skipS, asgS, callE, consEs, nilEs, varE, Fm.get, Fm.put, List.getD_cons_zero, List.set_cons_succ, List.set_cons_zero, Option.map_some, l1]
  obtain ⟨y', e⟩ := bisl_loop (r4 := some (.con .none)) h hl P xs.length 0 xs.length 65536 none (by (first | lia | omega)) (by (first | lia | omega)) (by (first | lia | omega)) P.le (Nat.le_refl _)
  have s3 : ifS (cmpT isO (varE 4) (valE (.con .none))) (seqS (whileGo (cmpT ltO (varE 2) (varE 3)) bisect_left_b1 skipS 65536) skipS) (seqS (whileGo (cmpT ltO (varE 2) (varE 3)) bisect_left_b2 skipS 65536) skipS) [some (.ref id), some x, some (.int ((0 : Nat) : Int)), some (.int (xs.length : Nat)), some (.con .none), none] σ =
      some (.next, [some (.ref id), some x, some (.int (pos : Nat)), some (.int (pos : Nat)), some (.con .none), y'], σ) := by
    have t1 : cmpT isO (varE 4) (valE (.con .none)) [some (.ref id), some x, some (.int ((0 : Nat) : Int)), some (.int (xs.length : Nat)), some (.con .none), none] σ = some (true, σ) := rfl
    unfold ifS
    rw [t1, Option.bind_some]
    dsimp only
    rw [if_pos rfl, seq_next e]
    rfl
  have s4 : bisect_left_s8 [some (.ref id), some x, some (.int (pos : Nat)), some (.int (pos : Nat)), some (.con .none), y'] σ = some (.ret (.int (pos : Nat)), [some (.ref id), some x, some (.int (pos : Nat)), some (.int (pos : Nat)), some (.con .none), y'], σ) := rfl
  have hF : bisect_left_F [some (.ref id), some x, some (.int ((0 : Nat) : Int)), some (.con .none), some (.con .none), none] σ = some (.ret (.int (pos : Nat)), [some (.ref id), some x, some (.int (pos : Nat)), some (.int (pos : Nat)), some (.con .none), y'], σ) := by
    unfold bisect_left_F
    rw [seq_next s1, seq_next s2, seq_next s3, seq_ret s4]
  exact callF_of (nl := 1) (as := [.ref id, x, .int 0, .con .none, .con .none]) rfl hF
end
end Mine
end
section
set_option maxRecDepth 100000
namespace Mine
/-! the gaps: each once -/
structure Pds (n : Nat) (D : List Nat) : Prop extends Dat n D where
  ex : ∀ g, 0 < g → g < n → ∃ a ∈ D, ∃ b ∈ D, (n + a - b) % n = g
  un : ∀ a ∈ D, ∀ b ∈ D, ∀ c ∈ D, ∀ d ∈ D, a ≠ b → (n + a - b) % n = (n + c - d) % n → a = c ∧ b = d
noncomputable def oneOf (n : Nat) (D : List Nat) (g : Nat) : Nat := (D.find? fun a => D.any fun b => (n + a - b) % n == g).getD 0
noncomputable def itemsL (n a : Nat) (E : List Nat) : List (List Nat) := (E.filter fun b => a != b).map fun b => [(n + a - b) % n, a]
noncomputable def itemsC (n : Nat) (D A : List Nat) : List (List Nat) := A.flatMap fun a => itemsL n a D
noncomputable def gapsR (n : Nat) (D : List Nat) : List (List Nat) := (List.range' 1 (n - 1)).map fun g => [g, oneOf n D g]
noncomputable def insAll (l : List (List Nat)) : List (List Nat) := l.foldl (fun acc x => insR x acc) []
theorem insAll_snoc (l : List (List Nat)) (x : List Nat) : insAll (l ++ [x]) = insR x (insAll l) := by
  unfold insAll
  rw [List.foldl_append]
  rfl
theorem insAll_spec : ∀ (k : Nat) (l : List (List Nat)), l.length = k → l.Nodup → SortedR (insAll l) ∧ (∀ y, y ∈ insAll l ↔ y ∈ l) ∧ (insAll l).length = k
  | 0, l, hk, _ => by
    have : l = [] := List.length_eq_zero_iff.mp hk
    subst this
    exact ⟨List.Pairwise.nil, fun y => Iff.rfl, rfl⟩
  | k + 1, l, hk, hn => by
    have hne : l ≠ [] := fun h => by rw [h] at hk; cases hk
    obtain ⟨m, x, rfl⟩ : ∃ m x, l = m ++ [x] := ⟨l.dropLast, l.getLast hne, (List.dropLast_concat_getLast hne).symm⟩
    have hm : m.length = k := by simp at hk; exact hk
    have h2 := List.nodup_append.mp hn
    obtain ⟨i1, i2, i3⟩ := insAll_spec k m hm h2.1
    have hx : x ∉ insAll m := fun h => h2.2.2 x ((i2 x).mp h) x (List.mem_singleton_self x) rfl
    rw [insAll_snoc]
    refine ⟨sorted_insR i1 hx, fun y => ?_, ?_⟩
    · rw [mem_insR, i2 y, List.mem_append, List.mem_singleton]
      exact or_comm
    · have : ∀ l : List (List Nat), (insR x l).length = l.length + 1 := by
        intro l
        induction l with
        | nil => rfl
        | cons b l ih =>
          unfold insR
          split
          · rfl
          · rw [List.length_cons, ih, List.length_cons]
      rw [this, i3]
section
variable {n : Nat} {D : List Nat}
theorem mem_itemsL {a : Nat} {E : List Nat} {y : List Nat} : y ∈ itemsL n a E ↔ ∃ b ∈ E, a ≠ b ∧ y = [(n + a - b) % n, a] := by
  unfold itemsL
  rw [List.mem_map]
  constructor
  · rintro ⟨b, hb, e⟩
    obtain ⟨h1, h2⟩ := List.mem_filter.mp hb
    exact ⟨b, h1, by simpa using h2, e.symm⟩
  · rintro ⟨b, hb, h, e⟩
    exact ⟨b, List.mem_filter.mpr ⟨hb, by simpa using h⟩, e.symm⟩
theorem gap_cg {a b : Nat} (hb : b < n) : Cg n ((n + a - b) % n : Nat) (a - b) := by
  have := cg_mod n (n + a - b)
  generalize (n + a - b) % n = z at this ⊢
  exact this.of 1 (by (first | lia | omega))
theorem gap_inj {a b c : Nat} (h : SizeOK n) (ha : a < n) (hb : b < n) (hc : c < n) (e : (n + a - b) % n = (n + a - c) % n) : b = c :=
  cg_eq hb hc ((((gap_cg (a := a) hc).symm.trans (cg_of_eq e.symm)).trans (gap_cg hb)).of 0 (by (first | lia | omega)))
theorem itemsL_nodup (h : SizeOK n) {a : Nat} (ha : a < n) : ∀ {E : List Nat}, E.Nodup → (∀ b ∈ E, b < n) → (itemsL n a E).Nodup
  | [], _, _ => List.nodup_nil
  | b :: E, hE, hl => by
    have h2 := List.nodup_cons.mp hE
    have ih := itemsL_nodup h ha h2.2 fun c hc => hl c (List.mem_cons_of_mem _ hc)
    unfold itemsL at ih ⊢
    rw [List.filter_cons]
    by_cases hab : (a != b) = true
    · rw [if_pos hab, List.map_cons]
      refine List.nodup_cons.mpr ⟨fun hm => ?_, ih⟩
      obtain ⟨c, hc, e⟩ := List.mem_map.mp hm
      have hcE := (List.mem_filter.mp hc).1
      injection e with e1 e2
      have := gap_inj h ha (hl b (List.mem_cons_self ..)) (hl c (List.mem_cons_of_mem _ hcE)) e1.symm
      exact h2.1 (this ▸ hcE)
    · rw [if_neg hab]
      exact ih
theorem items_nodup (h : Dat n D) : ∀ {A : List Nat}, A.Nodup → (∀ a ∈ A, a < n) → (itemsC n D A).Nodup
  | [], _, _ => List.nodup_nil
  | a :: A, hA, hl => by
    have h2 := List.nodup_cons.mp hA
    show (itemsL n a D ++ itemsC n D A).Nodup
    rw [List.nodup_append]
    refine ⟨itemsL_nodup h.size (hl a (List.mem_cons_self ..)) h.nd h.lt, items_nodup h h2.2 fun b hb => hl b (List.mem_cons_of_mem _ hb), fun x hx y hy he => ?_⟩
    obtain ⟨c, hc, hy⟩ := List.mem_flatMap.mp hy
    obtain ⟨b, _, _, e1⟩ := mem_itemsL.mp hx
    obtain ⟨d, _, _, e2⟩ := mem_itemsL.mp hy
    rw [e1, e2] at he
    injection he with _ he
    injection he with he _
    exact h2.1 (he ▸ hc)
theorem items_part (h : Dat n D) {A R E R' : List Nat} {a : Nat} (hA : D = A ++ a :: R) (hE : D = E ++ R') : (itemsC n D A ++ itemsL n a E).Nodup := by
  have hd := h.nd
  have hl := h.lt
  have hdA : (A ++ a :: R).Nodup := hA ▸ hd
  have hlA : ∀ x ∈ A ++ a :: R, x < n := hA ▸ hl
  have hA2 := List.nodup_append.mp hdA
  have hE2 : E.Nodup := (List.nodup_append.mp (hE ▸ hd : (E ++ R').Nodup)).1
  rw [List.nodup_append]
  refine ⟨items_nodup h hA2.1 fun x hx => hlA x (List.mem_append_left _ hx), itemsL_nodup h.size (hlA a (by simp)) hE2 fun b hb => hl b (by rw [hE]; exact List.mem_append_left _ hb), fun x hx y hy he => ?_⟩
  obtain ⟨c, hc, hx⟩ := List.mem_flatMap.mp hx
  obtain ⟨b, _, _, e1⟩ := mem_itemsL.mp hx
  obtain ⟨d, _, _, e2⟩ := mem_itemsL.mp hy
  rw [e1, e2] at he
  injection he with _ he
  injection he with he _
  exact hA2.2.2 c hc a (List.mem_cons_self ..) he
theorem gap_zero {a : Nat} : (n + a - a) % n = 0 := by
  rw [Nat.add_sub_cancel, Nat.mod_self]
theorem gap_ne {a b : Nat} (h : SizeOK n) (ha : a < n) (hb : b < n) (hab : a ≠ b) : (n + a - b) % n ≠ 0 := fun e =>
  hab (cg_eq ha hb (((gap_cg hb).symm.trans (cg_of_eq e)).of 0 (by (first | lia | omega))))
theorem oneOf_eq (h : Pds n D) {a b : Nat} (ha : a ∈ D) (hb : b ∈ D) (hab : a ≠ b) : oneOf n D ((n + a - b) % n) = a := by
  unfold oneOf
  cases hf : D.find? fun x => D.any fun y => (n + x - y) % n == (n + a - b) % n with
  | none =>
    have := List.find?_eq_none.mp hf a ha
    have hy : (D.any fun y => (n + a - y) % n == (n + a - b) % n) = true := List.any_eq_true.mpr ⟨b, hb, beq_self_eq_true ((n + a - b) % n)⟩
    exact absurd hy this
  | some x =>
    have h1 := List.find?_some hf
    have h2 := List.mem_of_find?_eq_some hf
    obtain ⟨y, hy, e⟩ := List.any_eq_true.mp h1
    exact ((h.un a ha b hb x h2 y hy hab (eq_of_beq e).symm).1).symm
theorem gaps_eq (h : Pds n D) : insAll (itemsC n D D) = gapsR n D := by
  have hd := h.toDat
  obtain ⟨s1, m1, _⟩ := insAll_spec _ _ rfl (items_nodup hd hd.nd hd.lt)
  refine sorted_ext s1 ?_ fun y => ?_
  · unfold gapsR SortedR
    rw [List.pairwise_map]
    refine (List.pairwise_lt_range' (s := 1) (n := n - 1) (step := 1)).imp fun {g g'} hg => ?_
    show (if g = g' then _ else decide (g < g')) = true
    rw [if_neg (by (first | lia | omega))]
    exact decide_eq_true hg
  · rw [m1]
    constructor
    · intro hy
      obtain ⟨a, ha, hy⟩ := List.mem_flatMap.mp hy
      obtain ⟨b, hb, hab, rfl⟩ := mem_itemsL.mp hy
      have h1 := gap_ne hd.size (hd.lt a ha) (hd.lt b hb) hab
      have h2 : (n + a - b) % n < n := Nat.mod_lt _ (by have := hd.size.le; (first | lia | omega))
      refine List.mem_map.mpr ⟨(n + a - b) % n, List.mem_range'_1.mpr ⟨by (first | lia | omega), by (first | lia | omega)⟩, ?_⟩
      rw [oneOf_eq h ha hb hab]
    · intro hy
      obtain ⟨g, hg, rfl⟩ := List.mem_map.mp hy
      obtain ⟨g1, g2⟩ := List.mem_range'_1.mp hg
      obtain ⟨a, ha, b, hb, e⟩ := h.ex g (by (first | lia | omega)) (by (first | lia | omega))
      have hab : a ≠ b := by
        intro hab
        subst hab
        rw [gap_zero] at e
        (first | lia | omega)
      refine List.mem_flatMap.mpr ⟨a, ha, mem_itemsL.mpr ⟨b, hb, hab, ?_⟩⟩
      rw [← e, oneOf_eq h ha hb hab]
end
end Mine
end
section
set_option maxRecDepth 100000
namespace Mine
theorem eqL_avN (d : Nat) (σ : St) : ∀ l : List Nat, eqL d σ (avN l) (avN l) = some true
  | [] => rfl
  | a :: l => by
    have ih := eqL_avN d σ l
    unfold eqL at ih ⊢
    show (match eqV d σ (.int (a : Nat)) (.int (a : Nat)), eqLs (eqV d σ) (avN l) (avN l) with | some b, some c => some (b && c) | _, _ => none) = _
    have e : eqV d σ (.int (a : Nat)) (.int (a : Nat)) = some true := by
      cases d with
      | zero => show some ((a : Int) == a) = _; rw [beq_self_eq_true]
      | succ d => show some ((a : Int) == a) = _; rw [beq_self_eq_true]
    rw [e, ih]
    rfl
theorem sameL_avN {σ : St} {i j : Nat} {l : List Nat} (h1 : σ[i]? = some (.list (avN l))) (h2 : σ[j]? = some (.list (avN l))) : sameL σ i j = some true := by
  unfold sameL
  rw [h1, h2]
  dsimp only
  rw [if_pos rfl, eqL_avN]
theorem neO_same {σ : St} {i j : Nat} (h : sameL σ i j = some true) : neO (.ref i) (.ref j) σ = some (.bool false, σ) := by
  unfold neO
  dsimp only
  rw [h]
  rfl
theorem eqO_same {σ : St} {i j : Nat} (h : sameL σ i j = some true) : eqO (.ref i) (.ref j) σ = some (.bool true, σ) := by
  unfold eqO
  dsimp only
  rw [h]
  rfl
theorem neO_int {a b : Nat} {σ : St} : neO (.int (a : Nat)) (.int (b : Nat)) σ = some (.bool (a != b), σ) := by
  show some (AV.bool ((a : Int) != (b : Int)), σ) = _
  congr 3
  rw [Bool.eq_iff_iff]
  simp
  omega
theorem ifS_true {t : TF} {f1 f2 : SF} {ρ : Fm} {σ σ1 : St} {r : Option (Fl × Fm × St)} (ht : t ρ σ = some (true, σ1)) (h : f1 ρ σ1 = r) : ifS t f1 f2 ρ σ = r := by
  unfold ifS
  rw [ht, Option.bind_some]
  dsimp only
  rw [if_pos rfl]
  exact h
theorem ifS_false {t : TF} {f1 f2 : SF} {ρ : Fm} {σ σ1 : St} {r : Option (Fl × Fm × St)} (ht : t ρ σ = some (false, σ1)) (h : f2 ρ σ1 = r) : ifS t f1 f2 ρ σ = r := by
  unfold ifS
  rw [ht, Option.bind_some]
  dsimp only
  rw [if_neg (by decide)]
  exact h
section
variable {n : Nat} {D tch : List Nat}
theorem gap_mod {a b : Nat} (h : SizeOK n) (ha : a < n) (hb : b < n) : ((a : Int) - (b : Int)) % (n : Int) = (((n + a - b) % n : Nat) : Int) := emod_cg (mod_lt' h) (gap_cg hb)
structure Gs (D tch : List Nat) (gl : List (List Nat)) (s : St) : Prop where
  h0 : s[0]? = some (.list (avN D))
  h1 : s[1]? = some (.list (avN tch))
  h2 : s[2]? = some (.list (gl.map tupR))
  hl : s.length = 3
theorem gaps_body (h : Dat n D) {a b : Nat} (ha : a < n) (hb : b < n) {P : List (List Nat)} (hP : P.Nodup) (hPl : P.length ≤ 100) {s : St} (S : Gs D tch (insAll P) s) {r6 r7 r8 r9 : Option AV} :
    ∃ s', law_meets_b1 [some (.int (n : Nat)), some (.ref 0), some (.ref 1), some (.ref 2), some (.int (a : Nat)), some (.int (b : Nat)), r6, r7, r8, r9] s =
      some (.next, [some (.int (n : Nat)), some (.ref 0), some (.ref 1), some (.ref 2), some (.int (a : Nat)), some (.int (b : Nat)), r6, r7, r8, r9], s') ∧ Gs D tch (insAll (P ++ itemsL n a [b])) s' := by
  obtain ⟨hs, _, hlen⟩ := insAll_spec P.length P rfl hP
  by_cases hab : a = b
  · have hi : itemsL n a [b] = [] := by
      unfold itemsL
      rw [List.filter_cons, if_neg (by simpa using hab)]
      rfl
    rw [hi, List.append_nil]
    refine ⟨s, seq_next (ifS_false (σ1 := s) (cmp_at rfl rfl (neO_int.trans ?_)) rfl), S⟩
    rw [show (a != b) = false by simpa using hab]
  · have hi : itemsL n a [b] = [[(n + a - b) % n, a]] := by
      unfold itemsL
      rw [List.filter_cons, if_pos (by simpa using hab)]
      rfl
    rw [hi]
    have ins := insort_rows (x := [(n + a - b) % n, a]) S.h2 (by (first | lia | omega)) hs
    rw [insAll_snoc]
    refine ⟨s.set 2 (.list ((insR [(n + a - b) % n, a] (insAll P)).map tupR)), seq_next (ifS_true (σ1 := s) (cmp_at rfl rfl (neO_int.trans ?_)) (seq_next (expr_at (call_at (cons_at rfl (cons1_at (tup_at (cons_at (bin_at (bin_at rfl rfl rfl) rfl (modO_of h.size (gap_mod h.size ha hb))) (cons1_at rfl)) (by show 2 ≤ 65536; (first | lia | omega))))) ins)))), ?_, ?_, ?_, ?_⟩
    · rw [show (a != b) = true by simpa using hab]
    · rw [set_get_ne (by (first | lia | omega))]; exact S.h0
    · rw [set_get_ne (by (first | lia | omega))]; exact S.h1
    · exact set_get_eq S.h2
    · rw [List.length_set]; exact S.hl
theorem itemsL_append {a : Nat} {E F : List Nat} : itemsL n a (E ++ F) = itemsL n a E ++ itemsL n a F := by
  unfold itemsL
  rw [List.filter_append, List.map_append]
theorem itemsL_len {a : Nat} {E : List Nat} : (itemsL n a E).length ≤ E.length := by
  unfold itemsL
  rw [List.length_map]
  exact List.length_filter_le ..
theorem itemsC_len : ∀ {A : List Nat}, (itemsC n D A).length ≤ A.length * D.length
  | [] => by simp [itemsC]
  | a :: A => by
    have := itemsC_len (A := A)
    have h2 := itemsL_len (n := n) (a := a) (E := D)
    show (itemsL n a D ++ itemsC n D A).length ≤ _
    rw [List.length_append, List.length_cons, Nat.add_mul, Nat.one_mul]
    (first | lia | omega)
theorem gaps_inner (h : Dat n D) {A R : List Nat} {a : Nat} (hA : D = A ++ a :: R) {s : St} (S : Gs D tch (insAll (itemsC n D A)) s) {r5 r6 r7 r8 r9 : Option AV} :
    ∃ y5 s', law_meets_b2 [some (.int (n : Nat)), some (.ref 0), some (.ref 1), some (.ref 2), some (.int (a : Nat)), r5, r6, r7, r8, r9] s =
      some (.next, [some (.int (n : Nat)), some (.ref 0), some (.ref 1), some (.ref 2), some (.int (a : Nat)), y5, r6, r7, r8, r9], s') ∧ Gs D tch (insAll (itemsC n D (A ++ [a]))) s' := by
  have ha : a < n := h.lt a (by rw [hA]; simp)
  have h6 := h.l6
  have hA6 : A.length ≤ 6 := by
    have := congrArg List.length hA
    simp at this
    (first | lia | omega)
  obtain ⟨ρ', s', e, ⟨y5, rfl⟩, S'⟩ := for_in (bf := law_meets_b1) (ef := skipS) (f := varE 1) (v := 5) (fuel := 65536) (ρ := [some (.int (n : Nat)), some (.ref 0), some (.ref 1), some (.ref 2), some (.int (a : Nat)), r5, r6, r7, r8, r9]) (σ := s) (σ0 := s) (l := D) (id := 0) (fun (p : Nat) => AV.int (p : Int))
    (fun done ρ s => (∃ x5, ρ = [some (.int (n : Nat)), some (.ref 0), some (.ref 1), some (.ref 2), some (.int (a : Nat)), x5, r6, r7, r8, r9]) ∧ Gs D tch (insAll (itemsC n D A ++ itemsL n a done)) s) rfl (by (first | lia | omega)) (fun done ρ s ⟨_, S⟩ => S.h0)
    ⟨⟨_, rfl⟩, by
      show Gs D tch (insAll (itemsC n D A ++ [])) s
      rw [List.append_nil]; exact S⟩
    (fun done b rest hd ρ s ⟨⟨x5, hρ⟩, S⟩ => by
      subst hρ
      have hb : b < n := h.lt b (by rw [hd]; simp)
      have hd6 : done.length ≤ 6 := by
        have := congrArg List.length hd
        simp at this
        (first | lia | omega)
      have hlen : (itemsC n D A ++ itemsL n a done).length ≤ 100 := by
        have h1 := itemsC_len (n := n) (D := D) (A := A)
        have h2 := itemsL_len (n := n) (a := a) (E := done)
        have h3 : A.length * D.length ≤ 6 * 6 := Nat.mul_le_mul hA6 h6
        rw [List.length_append]
        (first | lia | omega)
      obtain ⟨s', e, S'⟩ := gaps_body h ha hb (items_part h hA hd) hlen S (r6 := r6) (r7 := r7) (r8 := r8) (r9 := r9)
      refine ⟨_, _, e, ⟨_, rfl⟩, ?_⟩
      rw [itemsL_append, ← List.append_assoc]
      exact S')
  refine ⟨y5, s', seq_next e, ?_⟩
  have : itemsC n D (A ++ [a]) = itemsC n D A ++ itemsL n a D := by
    unfold itemsC
    rw [List.flatMap_append]
    simp
  rw [this]
  exact S'
theorem gaps_loop (h : Dat n D) {s : St} (S : Gs D tch [] s) {r4 r5 r6 r7 r8 r9 : Option AV} :
    ∃ y4 y5 s', forS false 65536 (nameA 4) (seqI (varE 1)) law_meets_b2 skipS [some (.int (n : Nat)), some (.ref 0), some (.ref 1), some (.ref 2), r4, r5, r6, r7, r8, r9] s =
      some (.next, [some (.int (n : Nat)), some (.ref 0), some (.ref 1), some (.ref 2), y4, y5, r6, r7, r8, r9], s') ∧ Gs D tch (insAll (itemsC n D D)) s' := by
  have h6 := h.l6
  obtain ⟨ρ', s', e, ⟨y4, y5, rfl⟩, S'⟩ := for_in (bf := law_meets_b2) (ef := skipS) (f := varE 1) (v := 4) (fuel := 65536) (ρ := [some (.int (n : Nat)), some (.ref 0), some (.ref 1), some (.ref 2), r4, r5, r6, r7, r8, r9]) (σ := s) (σ0 := s) (l := D) (id := 0) (fun (p : Nat) => AV.int (p : Int))
    (fun done ρ s => (∃ x4 x5, ρ = [some (.int (n : Nat)), some (.ref 0), some (.ref 1), some (.ref 2), x4, x5, r6, r7, r8, r9]) ∧ Gs D tch (insAll (itemsC n D done)) s) rfl (by (first | lia | omega)) (fun done ρ s ⟨_, S⟩ => S.h0)
    ⟨⟨_, _, rfl⟩, S⟩
    (fun done a rest hd ρ s ⟨⟨x4, x5, hρ⟩, S⟩ => by
      subst hρ
      obtain ⟨y5, s', e, S'⟩ := gaps_inner h hd S (r5 := x5) (r6 := r6) (r7 := r7) (r8 := r8) (r9 := r9)
      exact ⟨_, _, e, ⟨_, _, rfl⟩, S'⟩)
  exact ⟨y4, y5, s', e, S'⟩
theorem gaps_test (h : Pds n D) {s : St} (S : Gs D tch (gapsR n D) s) {r4 r5 r6 r7 r8 r9 : Option AV} :
    cmpT neO (compE true 65536 [none, none] (seqI (varE 3)) (tupA 2 (consA (nameA 0) (consA (nameA 1) nilA))) trueT (varE 0)) (lstRngE (rngF (consEs (valE (.int 1)) (consEs (varE 0) nilEs)))) [some (.int (n : Nat)), some (.ref 0), some (.ref 1), some (.ref 2), r4, r5, r6, r7, r8, r9] s =
      some (false, s ++ [.list (avN (List.range' 1 (n - 1)))] ++ [.list (avN (List.range' 1 (n - 1)))]) := by
  have hn := h.size.le
  have h2 : s[2]? = some (.list ((List.range' 1 (n - 1)).map fun g => tupR [g, oneOf n D g])) := by
    rw [S.h2]
    unfold gapsR
    rw [List.map_map]
    rfl
  have hy : Yields true (fun x => x = s) (.list 2 0) (((List.range' 1 (n - 1)).map fun g => tupR [g, oneOf n D g]).drop 0) := yields_list (fun x hx => by rw [hx]; exact h2) _ 0 (Nat.add_zero _)
  rw [List.drop_zero] at hy
  have hs : seqI (varE 3) [some (.int (n : Nat)), some (.ref 0), some (.ref 1), some (.ref 2), r4, r5, r6, r7, r8, r9] s = some (.list 2 0, s) := by
    unfold seqI
    show (match s[2]? with | some (AO.list _) => some (It.list 2 0, s) | _ => none) = _
    rw [h2]
  have c1 : compE true 65536 [none, none] (seqI (varE 3)) (tupA 2 (consA (nameA 0) (consA (nameA 1) nilA))) trueT (varE 0) [some (.int (n : Nat)), some (.ref 0), some (.ref 1), some (.ref 2), r4, r5, r6, r7, r8, r9] s =
      some (.ref s.length, s ++ [.list (avN (List.range' 1 (n - 1)))]) := by
    unfold compE
    rw [hs, Option.bind_some]
    dsimp only
    have hc := compGo_pick (tt := true) (tf := pairA) (ts := trueT) (ef := varE 0) (N := 65536) (ρ := [none, none]) (σ := s) (fun (g : Nat) => tupR [g, oneOf n D g]) (fun g => AV.int (g : Int)) (fun _ => true) (fun ρ => ∃ x y, ρ = [x, y]) hy (by rw [List.length_range']; (first | lia | omega)) ⟨none, none, rfl⟩ fun g _ ρ hr => by
      obtain ⟨x, y, rfl⟩ := hr
      exact ⟨[some (.int (g : Nat)), some (.int (oneOf n D g : Nat))], ⟨_, _, rfl⟩, rfl, rfl, fun _ => rfl⟩
    rw [pick_all] at hc
    refine (congrArg (fun q => Option.bind q _) hc).trans ?_
    rfl
  have e : rngVals 1 1 (n - 1) = avN (List.range' 1 (n - 1)) := by
    rw [rngVals_eq, List.range'_eq_map_range]
    unfold avN
    rw [List.map_map]
    apply List.map_congr_left
    intro i _
    show AV.int (1 + (i : Int) * 1) = AV.int ((1 + i : Nat) : Int)
    congr 1
    (first | lia | omega)
  have c2 : ∀ x : St, lstRngE (rngF (consEs (valE (.int 1)) (consEs (varE 0) nilEs))) [some (.int (n : Nat)), some (.ref 0), some (.ref 1), some (.ref 2), r4, r5, r6, r7, r8, r9] x = some (.ref x.length, x ++ [.list (avN (List.range' 1 (n - 1)))]) := by
    intro x
    have hsz : Builtin.Range.rangeSize 1 (n : Nat) 1 = ((n - 1 : Nat) : Int) := range_size1 1 n
    have hsm : Builtin.Range.small 1 (n : Nat) 1 = true := by
      have hq := rngIt_one (a := 1) (b := n) (by (first | lia | omega)) (by (first | lia | omega))
      unfold rngIt at hq
      split at hq
      · rename_i hc; exact hc.1
      · cases hq
    have hr : rngF (consEs (valE (.int 1)) (consEs (varE 0) nilEs)) [some (.int (n : Nat)), some (.ref 0), some (.ref 1), some (.ref 2), r4, r5, r6, r7, r8, r9] x = some ((1, (n : Int), 1), x) := rfl
    unfold lstRngE
    rw [hr, Option.bind_some]
    dsimp only
    rw [hsz, if_pos ⟨hsm, by (first | lia | omega), by (first | lia | omega)⟩, Int.toNat_natCast, e]
    unfold newL
    rw [if_pos (by simp; (first | lia | omega))]
  refine cmp_at c1 (c2 _) (neO_same (sameL_avN (l := List.range' 1 (n - 1)) ?_ ?_))
  · exact get_old get_new
  · exact get_new
end
end Mine
end
section
set_option maxRecDepth 100000
namespace Mine
theorem for_enum {α : Type} {bf ef : SF} {fs : EFs} {v w id fuel : Nat} {ρ : Fm} {σ σ0 : St} {l : List α} (emb : α → AV) (I : Nat → Fm → St → Prop) (hf : fs ρ σ0 = some ([.ref id], σ)) (hb : l.length < fuel) (hP : ∀ i ρ σ, I i ρ σ → σ[id]? = some (.list (l.map emb))) (h0 : I 0 ρ σ)
    (step : ∀ i a, l[i]? = some a → ∀ ρ σ, I i ρ σ → ∃ ρ2 σ2, bf (Fm.put (Fm.put ρ v (.int (i : Nat))) w (emb a)) σ = some (.next, ρ2, σ2) ∧ I (i + 1) ρ2 σ2) :
    ∃ ρ' σ', forS true fuel (tupA 2 (consA (nameA v) (consA (nameA w) nilA))) (enumI fs) bf ef ρ σ0 = ef ρ' σ' ∧ I l.length ρ' σ' := by
  have hx := hP _ _ _ h0
  have hy : Yields true (fun s => s[id]? = some (.list (l.map emb))) (.enumL id 0) (enumV 0 ((l.map emb).drop 0)) := yields_enum (fun s hs => hs) _ 0 (Nat.add_zero _)
  rw [List.drop_zero] at hy
  obtain ⟨ρ', σ', e, i, hi, he, hI⟩ := for_run (tf := tupA 2 (consA (nameA v) (consA (nameA w) nilA))) (bf := bf) (ef := ef) (fun as ρ σ => ∃ i, i ≤ l.length ∧ as = enumV i ((l.drop i).map emb) ∧ I i ρ σ) (fun as ρ σ ⟨i, _, _, hI⟩ => hP i ρ σ hI)
    (fun a as ρ σ ⟨i, hi, ha, hI⟩ => by
      have hil : i < l.length := by
        rcases Nat.lt_or_ge i l.length with h | h
        · exact h
        · rw [List.drop_eq_nil_of_le h] at ha; cases ha
      rw [List.drop_eq_getElem_cons hil, List.map_cons] at ha
      cases ha
      obtain ⟨ρ2, σ2, e, hI'⟩ := step i l[i] (List.getElem?_eq_getElem hil) ρ σ hI
      exact ⟨_, _, ρ2, σ2, rfl, e, i + 1, hil, rfl, hI'⟩)
    (enumV 0 (l.map emb)) (.enumL id 0) fuel ρ σ hy (by rwa [enumV_length, List.length_map]) ⟨0, Nat.zero_le _, by rw [List.drop_zero], h0⟩
  have hil : i = l.length := by
    rcases Nat.lt_or_ge i l.length with h | h
    · rw [List.drop_eq_getElem_cons h, List.map_cons] at he; cases he
    · (first | lia | omega)
  subst hil
  refine ⟨ρ', σ', ?_, hI⟩
  have hs : enumI fs ρ σ0 = some (.enumL id 0, σ) := by
    unfold enumI
    rw [hf, Option.bind_some]
    dsimp only
    rw [hx]
  unfold forS
  rw [hs, Option.bind_some]
  exact e
theorem clip_nat {n k : Nat} : clipAt n (k : Nat) = min k n := by
  unfold clipAt
  rw [if_neg (Int.not_lt.mpr (Int.natCast_nonneg k))]
  rcases Nat.le_total k n with h | h
  · rw [Int.min_eq_left (Int.ofNat_le.mpr h), Int.max_eq_right (Int.natCast_nonneg k), Int.toNat_natCast, Nat.min_eq_left h]
  · rw [Int.min_eq_right (Int.ofNat_le.mpr h), Int.max_eq_right (Int.natCast_nonneg n), Int.toNat_natCast, Nat.min_eq_right h]
theorem cut_head {f1 f2 : EF} {ρ : Fm} {σ : St} {id k : Nat} {l : List AV} (h1 : f1 ρ σ = some (.ref id, σ)) (h2 : f2 ρ σ = some (.int (k : Nat), σ)) (hl : σ[id]? = some (.list l)) (hle : l.length ≤ 60000) :
    cutE f1 noPart (intPart f2) ρ σ = some (.ref σ.length, σ ++ [.list (l.take k)]) := by
  have hc : cutL l none (some (k : Nat)) = l.take k := by
    unfold cutL
    rw [Option.elim_none, Option.elim_some, clip_nat, List.drop_zero, Nat.sub_zero, ← List.take_take, List.take_length]
  have hI : intPart f2 ρ σ = some (some ((k : Nat) : Int), σ) := by
    unfold intPart
    rw [h2]
    rfl
  unfold cutE
  rw [h1, Option.bind_some]
  show ((noPart ρ σ).bind _) = _
  unfold noPart
  rw [Option.bind_some]
  dsimp only
  rw [hI, Option.bind_some]
  dsimp only
  unfold cutO
  dsimp only
  rw [hl]
  dsimp only
  rw [if_pos (Nat.le_trans hle (by decide)), hc]
/-- a list cut off: ahead of a place -/
theorem cut_to {f1 f2 : EF} {ρ : Fm} {σ : St} {id k : Nat} {l : List Nat} (h1 : f1 ρ σ = some (.ref id, σ)) (h2 : f2 ρ σ = some (.int (k : Nat), σ)) (hl : σ[id]? = some (.list (avN l))) (hle : l.length ≤ 60000) :
    cutE f1 noPart (intPart f2) ρ σ = some (.ref σ.length, σ ++ [.list (avN (l.take k))]) := by
  have := cut_head h1 h2 hl (by rwa [List.length_map])
  unfold avN at this ⊢
  rwa [← List.map_take] at this
section
variable {n : Nat} {D tch : List Nat}
noncomputable def meetRow (n : Nat) (D : List Nat) (t : Nat) (es : List Nat) : List Nat := es.map fun e => (e + oneOf n D (t - e)) % n
noncomputable def meetsL (n : Nat) (D tch : List Nat) (r : Nat) : List Nat := (List.range r).flatMap fun i => meetRow n D (tch.getD i 0) (tch.take i)
theorem gaps_place {s : St} {g : Nat} (hg : 0 < g) (hgn : g < n) : PlaceL s ((gapsR n D).map tupR) (tupR [g, 0]) (g - 1) := by
  have hget : ∀ i a, ((gapsR n D).map tupR)[i]? = some a → i < n - 1 ∧ a = tupR [1 + i, oneOf n D (1 + i)] := by
    intro i a h
    unfold gapsR at h
    rw [List.map_map, List.getElem?_map] at h
    obtain ⟨x, hx, rfl⟩ := omap h
    have hi := (List.getElem?_eq_some_iff.mp hx).1
    rw [List.length_range'] at hi
    rw [List.getElem?_range' hi, Nat.one_mul] at hx
    cases hx
    exact ⟨hi, rfl⟩
  refine ⟨by unfold gapsR; simp; (first | lia | omega), fun i a h hi => ?_, fun i a h hi => ?_⟩
  · obtain ⟨h1, rfl⟩ := hget i a h
    rw [lt_rows]
    congr 3
    show (if 1 + i = g then _ else decide (1 + i < g)) = true
    rw [if_neg (by (first | lia | omega))]
    exact decide_eq_true (by (first | lia | omega))
  · obtain ⟨h1, rfl⟩ := hget i a h
    rw [lt_rows]
    congr 3
    show (if 1 + i = g then (if oneOf n D (1 + i) = 0 then false else decide (oneOf n D (1 + i) < 0)) else decide (1 + i < g)) = false
    by_cases he : 1 + i = g
    · rw [if_pos he]
      split
      · rfl
      · exact decide_eq_false (by (first | lia | omega))
    · rw [if_neg he]
      exact decide_eq_false (by (first | lia | omega))
theorem meets_body (h : Dat n D) {t e : Nat} (het : e < t) (htn : t < n) {acc : List Nat} (ha : acc.length ≤ 1000) {s : St} (h2 : s[2]? = some (.list ((gapsR n D).map tupR))) (h5 : s[5]? = some (.list (avN acc))) {r4 r5 r7 : Option AV} :
    ∃ y4, law_meets_b3 [some (.int (n : Nat)), some (.ref 0), some (.ref 1), some (.ref 2), r4, r5, some (.ref 5), r7, some (.int (t : Nat)), some (.int (e : Nat))] s =
      some (.next, [some (.int (n : Nat)), some (.ref 0), some (.ref 1), some (.ref 2), y4, r5, some (.ref 5), r7, some (.int (t : Nat)), some (.int (e : Nat))], s.set 5 (.list (avN (acc ++ [(e + oneOf n D (t - e)) % n])))) := by
  have hn := h.size.le
  have hs := subO_nat (σ := s) (Nat.le_of_lt het)
  have hb := bisl_spec (pos := t - e - 1) h2 (by unfold gapsR; simp; (first | lia | omega)) (gaps_place (s := s) (D := D) (show 0 < t - e by (first | lia | omega)) (show t - e < n by (first | lia | omega)))
  have hg1 := getO_list (i := t - e - 1) (a := tupR [t - e, oneOf n D (t - e)]) h2 (by unfold gapsR; simp; (first | lia | omega)) (by
    unfold gapsR
    rw [List.map_map, List.getElem?_map, List.getElem?_range' (by (first | lia | omega)), Nat.one_mul, show 1 + (t - e - 1) = t - e by (first | lia | omega)]
    rfl)
  have hg2 : getO (tupR [t - e, oneOf n D (t - e)]) (.int 1) s = some (.int (oneOf n D (t - e) : Nat), s) := rfl
  have e1 : law_meets_s5 [some (.int (n : Nat)), some (.ref 0), some (.ref 1), some (.ref 2), r4, r5, some (.ref 5), r7, some (.int (t : Nat)), some (.int (e : Nat))] s =
      some (.next, [some (.int (n : Nat)), some (.ref 0), some (.ref 1), some (.ref 2), some (.int (oneOf n D (t - e) : Nat)), r5, some (.ref 5), r7, some (.int (t : Nat)), some (.int (e : Nat))], s) :=
    asg_at (bin_at (bin_at rfl (call_at (cons_at rfl (cons1_at (tup_at (cons_at (bin_at rfl rfl hs) (cons1_at rfl)) (by show 2 ≤ 65536; (first | lia | omega))))) hb) hg1) rfl hg2)
  have m1 : modO (.int ((e + oneOf n D (t - e) : Nat) : Int)) (.int (n : Nat)) s = some (.int (((e + oneOf n D (t - e)) % n : Nat) : Int), s) := modO_nat (by (first | lia | omega))
  have ap := appO_at (x := .int (((e + oneOf n D (t - e)) % n : Nat) : Int)) h5 (by rw [List.length_map]; (first | lia | omega))
  refine ⟨some (.int (oneOf n D (t - e) : Nat)), (seq_next e1).trans ((seq_next (expr_at (meth_at rfl (okL_at h5) (cons1_at (bin_at (bin_at rfl rfl rfl) rfl m1)) ap))).trans ?_)⟩
  unfold avN
  rw [List.map_append]
  rfl
end
end Mine
end
section
set_option maxRecDepth 100000
namespace Mine
section
variable {n : Nat} {D tch : List Nat}
structure Ms (n : Nat) (D tch acc : List Nat) (s : St) : Prop where
  h0 : s[0]? = some (.list (avN D))
  h1 : s[1]? = some (.list (avN tch))
  h2 : s[2]? = some (.list ((gapsR n D).map tupR))
  h5 : s[5]? = some (.list (avN acc))
  hl : 6 ≤ s.length
theorem take_part {l done rest : List Nat} {a i m : Nat} (hd : l.take i = done ++ a :: rest) (h : l.length ≤ m) : done.length ≤ m :=
  Nat.le_trans (Nat.le_trans (by rw [hd, List.length_append]; exact Nat.le_add_right ..) (List.length_take_le' i l)) h
/-- a touching list: ascending, below n -/
structure Tch (n : Nat) (tch : List Nat) : Prop where
  up : tch.Pairwise (· < ·)
  lt : ∀ t ∈ tch, t < n
  l6 : tch.length ≤ 6
theorem Tch.early {i t e : Nat} (T : Tch n tch) (hi : tch[i]? = some t) (he : e ∈ tch.take i) : e < t := by
  obtain ⟨j, hj, rfl⟩ := List.getElem_of_mem he
  have hil := (List.getElem?_eq_some_iff.mp hi).1
  rw [List.length_take] at hj
  rw [List.getElem_take]
  have := List.pairwise_iff_getElem.mp T.up j i (by omega) hil (by omega)
  rw [(List.getElem?_eq_some_iff.mp hi).2] at this
  exact this
theorem meetRow_len (t : Nat) (es : List Nat) : (meetRow n D t es).length = es.length := by unfold meetRow; rw [List.length_map]
theorem meetsL_len (T : Tch n tch) : ∀ r, r ≤ 6 → (meetsL n D tch r).length ≤ 6 * r
  | 0, _ => by simp [meetsL]
  | r + 1, h => by
    have ih := meetsL_len T r (by (first | lia | omega))
    unfold meetsL at ih ⊢
    rw [flat_snoc, List.length_append, meetRow_len, List.length_take]
    have := T.l6
    (first | lia | omega)
theorem meets_row (h : Dat n D) (T : Tch n tch) {i t : Nat} (hi : tch[i]? = some t) {acc : List Nat} (ha : acc.length ≤ 100) {s : St} (S : Ms n D tch acc s) {r4 r5 r9 : Option AV} :
    ∃ y4 y9 s', law_meets_b4 [some (.int (n : Nat)), some (.ref 0), some (.ref 1), some (.ref 2), r4, r5, some (.ref 5), some (.int (i : Nat)), some (.int (t : Nat)), r9] s =
      some (.next, [some (.int (n : Nat)), some (.ref 0), some (.ref 1), some (.ref 2), y4, r5, some (.ref 5), some (.int (i : Nat)), some (.int (t : Nat)), y9], s') ∧ Ms n D tch (acc ++ meetRow n D t (tch.take i)) s' := by
  have h6 := T.l6
  have htn : t < n := T.lt t (List.mem_of_getElem? hi)
  have hcut := cut_to (f1 := varE 2) (f2 := varE 7) (ρ := [some (.int (n : Nat)), some (.ref 0), some (.ref 1), some (.ref 2), r4, r5, some (.ref 5), some (.int (i : Nat)), some (.int (t : Nat)), r9]) rfl rfl S.h1 (by (first | lia | omega))
  have hL := S.hl
  obtain ⟨ρ', s', e, ⟨y4, y9, rfl⟩, S', hs⟩ := for_in (bf := law_meets_b3) (ef := skipS) (f := cutE (varE 2) noPart (intPart (varE 7))) (v := 9) (fuel := 65536) (l := tch.take i) (fun (p : Nat) => AV.int (p : Int))
    (fun done ρ x => (∃ x4 x9, ρ = [some (.int (n : Nat)), some (.ref 0), some (.ref 1), some (.ref 2), x4, r5, some (.ref 5), some (.int (i : Nat)), some (.int (t : Nat)), x9]) ∧ Ms n D tch (acc ++ meetRow n D t done) x ∧ x[s.length]? = some (.list (avN (tch.take i)))) hcut (by rw [List.length_take]; (first | lia | omega)) (fun done ρ x ⟨_, _, h⟩ => h)
    ⟨⟨_, _, rfl⟩, ⟨get_old S.h0, get_old S.h1, get_old S.h2, by
      show _ = some (AO.list (avN (acc ++ [])))
      rw [List.append_nil]; exact get_old S.h5, by rw [List.length_append]; (first | lia | omega)⟩, get_new⟩
    (fun done p rest hd ρ x ⟨⟨x4, x9, hρ⟩, S, hs⟩ => by
      subst hρ
      have hp : p < t := T.early hi (by rw [hd]; simp)
      have hdl := take_part hd h6
      obtain ⟨y4, e⟩ := meets_body h hp htn (acc := acc ++ meetRow n D t done) (by rw [List.length_append, meetRow_len]; (first | lia | omega)) S.h2 S.h5 (r4 := x4) (r5 := r5) (r7 := some (.int (i : Nat)))
      refine ⟨_, _, e, ⟨_, _, rfl⟩, ⟨?_, ?_, ?_, ?_, ?_⟩, ?_⟩
      · rw [set_get_ne (by (first | lia | omega))]; exact S.h0
      · rw [set_get_ne (by (first | lia | omega))]; exact S.h1
      · rw [set_get_ne (by (first | lia | omega))]; exact S.h2
      · rw [set_get_eq S.h5, List.append_assoc]
        unfold meetRow
        rw [List.map_append]
        rfl
      · rw [List.length_set]; exact S.hl
      · rw [set_get_ne (by (first | lia | omega))]; exact hs)
  exact ⟨y4, y9, s', seq_next e, S'⟩
theorem meets_spec (h : Pds n D) (T : Tch n tch) : ∃ σ', op_law_meets_3 [.int (n : Nat), .ref 0, .ref 1] [.list (avN D), .list (avN tch)] = some (.ref 5, σ') ∧ Ms n D tch (meetsL n D tch tch.length) σ' := by
  have hd := h.toDat
  have e1 : law_meets_s1 [some (.int (n : Nat)), some (.ref 0), some (.ref 1), none, none, none, none, none, none, none] [.list (avN D), .list (avN tch)] =
      some (.next, [some (.int (n : Nat)), some (.ref 0), some (.ref 1), some (.ref 2), none, none, none, none, none, none], [.list (avN D), .list (avN tch), .list []]) := asg_at (a := .ref 2) (lst_at (fs := nilEs) (as := []) rfl (Nat.zero_le _))
  obtain ⟨y4, y5, s, e2, S⟩ := gaps_loop (tch := tch) hd (s := [.list (avN D), .list (avN tch), .list []]) ⟨rfl, rfl, rfl, rfl⟩ (r4 := none) (r5 := none) (r6 := none) (r7 := none) (r8 := none) (r9 := none)
  rw [gaps_eq h] at S
  have e3 := ifS_false (f1 := seqS law_meets_s3 skipS) (f2 := skipS) (gaps_test h S (r4 := y4) (r5 := y5) (r6 := none) (r7 := none) (r8 := none) (r9 := none)) rfl
  have hl5 : (s ++ [AO.list (avN (List.range' 1 (n - 1)))] ++ [AO.list (avN (List.range' 1 (n - 1)))]).length = 5 := by simp [S.hl]
  have g0 := get_old (τ := [AO.list (avN (List.range' 1 (n - 1)))]) (get_old (τ := [AO.list (avN (List.range' 1 (n - 1)))]) S.h0)
  have g1 := get_old (τ := [AO.list (avN (List.range' 1 (n - 1)))]) (get_old (τ := [AO.list (avN (List.range' 1 (n - 1)))]) S.h1)
  have g2 := get_old (τ := [AO.list (avN (List.range' 1 (n - 1)))]) (get_old (τ := [AO.list (avN (List.range' 1 (n - 1)))]) S.h2)
  generalize (s ++ [AO.list (avN (List.range' 1 (n - 1)))] ++ [AO.list (avN (List.range' 1 (n - 1)))]) = s1 at e3 hl5 g0 g1 g2
  have e4 : law_meets_s4 [some (.int (n : Nat)), some (.ref 0), some (.ref 1), some (.ref 2), y4, y5, none, none, none, none] s1 =
      some (.next, [some (.int (n : Nat)), some (.ref 0), some (.ref 1), some (.ref 2), y4, y5, some (.ref 5), none, none, none], s1 ++ [.list []]) := by
    have := lst_at (ρ := [some (.int (n : Nat)), some (.ref 0), some (.ref 1), some (.ref 2), y4, y5, none, none, none, none]) (σ := s1) (fs := nilEs) (as := []) rfl (Nat.zero_le _)
    rw [hl5] at this
    exact asg_at this
  have S0 : Ms n D tch (meetsL n D tch 0) (s1 ++ [.list []]) := ⟨get_old g0, get_old g1, get_old g2, by rw [← hl5]; exact get_new, by simp [hl5]⟩
  have h6 := T.l6
  obtain ⟨ρ', s', e5, ⟨z4, z7, z8, z9, rfl⟩, S'⟩ := for_enum (bf := law_meets_b4) (ef := skipS) (fs := consEs (varE 2) nilEs) (v := 7) (w := 8) (fuel := 65536) (l := tch) (id := 1) (ρ := [some (.int (n : Nat)), some (.ref 0), some (.ref 1), some (.ref 2), y4, y5, some (.ref 5), none, none, none]) (σ := s1 ++ [.list []]) (σ0 := s1 ++ [.list []]) (fun (p : Nat) => AV.int (p : Int))
    (fun i ρ x => (∃ x4 x7 x8 x9, ρ = [some (.int (n : Nat)), some (.ref 0), some (.ref 1), some (.ref 2), x4, y5, some (.ref 5), x7, x8, x9]) ∧ Ms n D tch (meetsL n D tch i) x) rfl (by (first | lia | omega)) (fun i ρ x ⟨_, S⟩ => S.h1) ⟨⟨_, _, _, _, rfl⟩, S0⟩
    (fun i t hi ρ x ⟨⟨x4, x7, x8, x9, hρ⟩, S⟩ => by
      subst hρ
      have hil := (List.getElem?_eq_some_iff.mp hi).1
      obtain ⟨y4, y9, s', e, S'⟩ := meets_row hd T hi (by have := meetsL_len (D := D) T i (by (first | lia | omega)); (first | lia | omega)) S (r4 := x4) (r5 := y5) (r9 := x9)
      refine ⟨_, _, e, ⟨_, _, _, _, rfl⟩, ?_⟩
      unfold meetsL at S' ⊢
      rw [flat_snoc, List.getD_eq_getElem?_getD, hi]
      exact S')
  refine ⟨s', ?_, S'⟩
  unfold op_law_meets_3
  rw [plain_eq (show ([AV.int (n : Nat), AV.ref 0, AV.ref 1]).length = 3 from rfl)]
  refine callF_of (ρ := [some (.int (n : Nat)), some (.ref 0), some (.ref 1), none, none, none, none, none, none, none]) rfl (ρ' := [some (.int (n : Nat)), some (.ref 0), some (.ref 1), some (.ref 2), z4, y5, some (.ref 5), z7, z8, z9]) ?_
  unfold law_meets_F
  rw [seq_next e1, seq_next e2, seq_next e3, seq_next e4, seq_next e5]
  exact seq_ret (ret_at rfl)
theorem meets_f (h : Pds n D) (T : Tch n tch) {σ : St} {d t : Nat} (hd : σ[d]? = some (.list (avN D))) (ht : σ[t]? = some (.list (avN tch))) (hdt : d ≠ t) :
    op_law_meets_f [.int (n : Nat), .ref d, .ref t] σ = some (.ref σ.length, σ ++ [.list (avN (meetsL n D tch tch.length))]) := by
  obtain ⟨σ1, e, S⟩ := meets_spec h T
  exact frame_two rfl hd ht hdt (nrs_avN _) (nrs_avN _) e S.h0 S.h1 (adopt_list (by show 2 ≤ 5; (first | lia | omega)) S.h5 (nrs_avN _))
end
end Mine
end
section
set_option maxRecDepth 100000
namespace Mine
/-! _law_through -/
theorem eqO_int {a b : Nat} {σ : St} : eqO (.int (a : Nat)) (.int (b : Nat)) σ = some (.bool (a == b), σ) := by
  show some (AV.bool ((a : Int) == (b : Int)), σ) = _
  congr 3
  rw [Bool.eq_iff_iff]
  simp
  omega
section
variable {few : Nat} {ov ms : List Nat}
noncomputable def evenV (ms : List Nat) (p : Nat × Nat) : Nat := if (p.1 == 1) = true then 1 else if ms.contains p.2 = true then 2 else 0
theorem avN_ite {b : Bool} {x y : Nat} : (if b = true then AV.int (x : Nat) else AV.int (y : Nat)) = AV.int (((if b = true then x else y) : Nat) : Int) := by cases b <;> rfl
theorem through_even (hf : few % 2 = 0) (ho : ov.length ≤ 60000) {σ : St} {k : Nat} (hk : σ[k]? = some (.list (avN ms))) :
    op_law_through_f [.int (few : Nat), .bytes ov, .ref k] σ = some (.ref σ.length, σ ++ [.list (avN (ov.zipIdx.map (evenV ms)))]) := by
  have m1 : modO (.int (few : Nat)) (.int 2) [AO.list (avN ms)] = some (.int ((0 : Nat) : Int), [AO.list (avN ms)]) := by
    have := modO_nat (a := few) (b := 2) (σ := [AO.list (avN ms)]) (by (first | lia | omega))
    rw [hf] at this
    exact this
  have t1 : cmpT eqO (binE modO (varE 0) (valE (.int 2))) (valE (.int 0)) [some (.int (few : Nat)), some (.bytes ov), some (.ref 0)] [AO.list (avN ms)] = some (true, [AO.list (avN ms)]) := cmp_at (bin_at rfl rfl m1) rfl rfl
  have c1 := compE_enumB (N := 65536) (cap := [none, none, some 2]) (ρ := [some (.int (few : Nat)), some (.bytes ov), some (.ref 0)]) (σ := [AO.list (avN ms)]) (σ1 := [AO.list (avN ms)]) (cs := [some (.ref 0)]) (ts := trueT) (ef := ifE (cmpT eqO (varE 1) (valE (.int 1))) (valE (.int 1)) (ifE (cmpT inO (varE 0) (varE 2)) (valE (.int 2)) (valE (.int 0))))
    (fun p => AV.int (evenV ms p : Nat)) (fun _ => true) (fs := consEs (varE 1) nilEs) (b := ov) rfl (by (first | lia | omega)) rfl fun p _ => ⟨rfl, fun _ => by
      have i1 := inO_at (σ := [AO.list (avN ms)]) (id := 0) (x := p.2) (l := ms) rfl
      have e2 : ifE (cmpT inO (varE 0) (varE 2)) (valE (.int 2)) (valE (.int 0)) [some (.int (p.2 : Nat)), some (.int (p.1 : Nat)), some (.ref 0)] [AO.list (avN ms)] = some (if ms.contains p.2 = true then .int ((2 : Nat) : Int) else .int ((0 : Nat) : Int), [AO.list (avN ms)]) := if_at (cmp_at rfl rfl i1) rfl rfl
      rw [avN_ite] at e2
      have e3 := if_at (t := cmpT eqO (varE 1) (valE (.int 1))) (f1 := valE (.int 1)) (a1 := .int ((1 : Nat) : Int)) (ρ := [some (.int (p.2 : Nat)), some (.int (p.1 : Nat)), some (.ref 0)]) (σ := [AO.list (avN ms)]) (cmp_at rfl rfl (eqO_int (a := p.1) (b := 1))) rfl e2
      rw [avN_ite] at e3
      exact e3⟩
  rw [pick_all] at c1
  have e : op_law_through_3 [.int (few : Nat), .bytes ov, .ref 0] [.list (avN ms)] = some (.ref 1, [.list (avN ms), .list (avN (ov.zipIdx.map (evenV ms)))]) := by
    unfold op_law_through_3
    rw [plain_eq (show ([AV.int (few : Nat), AV.bytes ov, AV.ref 0]).length = 3 from rfl)]
    refine callF_of (ρ := [some (.int (few : Nat)), some (.bytes ov), some (.ref 0)]) rfl (ρ' := [some (.int (few : Nat)), some (.bytes ov), some (.ref 0)]) ?_
    unfold law_through_F
    refine seq_ret (ifS_true t1 (seq_ret (ret_at ?_)))
    rw [c1]
    unfold avN
    rw [List.map_map]
    rfl
  exact frame1 (pre := [.int (few : Nat), .bytes ov]) (post := []) rfl rfl hk (nrs_avN _) e rfl (adopt_list (by show 1 ≤ 1; (first | lia | omega)) rfl (nrs_avN _))
theorem through_odd (hf : few % 2 = 1) (ho : ov.length ≤ 60000) {m0 : Nat} (hm : ms[0]? = some m0) (hml : ms.length ≤ 60000) {σ : St} {k : Nat} (hk : σ[k]? = some (.list (avN ms))) :
    op_law_through_f [.int (few : Nat), .bytes ov, .ref k] σ = some (.ref σ.length, σ ++ [.list (avN ((List.range ov.length).map fun x => if (x == m0) = true then few else 1))]) := by
  have m1 : modO (.int (few : Nat)) (.int 2) [AO.list (avN ms)] = some (.int ((1 : Nat) : Int), [AO.list (avN ms)]) := by
    have := modO_nat (a := few) (b := 2) (σ := [AO.list (avN ms)]) (by (first | lia | omega))
    rw [hf] at this
    exact this
  have t1 : cmpT eqO (binE modO (varE 0) (valE (.int 2))) (valE (.int 0)) [some (.int (few : Nat)), some (.bytes ov), some (.ref 0)] [AO.list (avN ms)] = some (false, [AO.list (avN ms)]) := cmp_at (bin_at rfl rfl m1) rfl rfl
  have l1 : lenO [.bytes ov] [AO.list (avN ms)] = some (.int (ov.length : Nat), [AO.list (avN ms)]) := by
    unfold lenO
    dsimp only
    rw [if_pos (by (first | lia | omega))]
  have hr : rngI (rngF (consEs (callE lenO (consEs (varE 1) nilEs)) nilEs)) [some (.int (few : Nat)), some (.bytes ov), some (.ref 0)] [AO.list (avN ms)] = some (.range 0 1 ov.length, [AO.list (avN ms)]) := by
    have c : consEs (callE lenO (consEs (varE 1) nilEs)) nilEs [some (.int (few : Nat)), some (.bytes ov), some (.ref 0)] [AO.list (avN ms)] = some ([.int (ov.length : Nat)], [AO.list (avN ms)]) := cons1_at (call_at (cons1_at rfl) l1)
    unfold rngI rngF
    rw [c, Option.bind_some]
    dsimp only
    rw [Option.bind_some, rngIt_to (by (first | lia | omega))]
    rfl
  have g1 := getO_list (σ := [AO.list (avN ms)]) (id := 0) (xs := avN ms) (i := 0) (a := .int (m0 : Nat)) rfl (by rw [List.length_map]; (first | lia | omega)) (by rw [List.getElem?_map, hm]; rfl)
  have c1 := compE_rngM (N := 65536) (cap := [none, some 2, some 0]) (ρ := [some (.int (few : Nat)), some (.bytes ov), some (.ref 0)]) (fun x => if (x == m0) = true then AV.int (few : Nat) else AV.int ((1 : Nat) : Int)) (b := ov.length)
    (fr := rngI (rngF (consEs (callE lenO (consEs (varE 1) nilEs)) nilEs))) (σ := [AO.list (avN ms)]) (cs := [some (.ref 0), some (.int (few : Nat))]) (ef := ifE (cmpT eqO (varE 0) (binE getO (varE 1) (valE (.int 0)))) (varE 2) (valE (.int 1))) hr (by (first | lia | omega)) rfl fun x hx => by
      exact if_at (cmp_at rfl (bin_at rfl rfl g1) eqO_int) rfl rfl
  have e : op_law_through_3 [.int (few : Nat), .bytes ov, .ref 0] [.list (avN ms)] = some (.ref 1, [.list (avN ms), .list (avN ((List.range ov.length).map fun x => if (x == m0) = true then few else 1))]) := by
    unfold op_law_through_3
    rw [plain_eq (show ([AV.int (few : Nat), AV.bytes ov, AV.ref 0]).length = 3 from rfl)]
    refine callF_of (ρ := [some (.int (few : Nat)), some (.bytes ov), some (.ref 0)]) rfl (ρ' := [some (.int (few : Nat)), some (.bytes ov), some (.ref 0)]) ?_
    unfold law_through_F
    rw [seq_next (ifS_false (f1 := seqS law_through_s1 skipS) (f2 := skipS) t1 rfl)]
    refine seq_ret (ret_at ?_)
    have hm : ((List.range ov.length).map fun x => if (x == m0) = true then AV.int (few : Nat) else AV.int ((1 : Nat) : Int)) = avN ((List.range ov.length).map fun x => if (x == m0) = true then few else 1) := by
      unfold avN
      rw [List.map_map]
      apply List.map_congr_left
      intro x _
      exact avN_ite
    rw [c1, hm]
    rfl
  exact frame1 (pre := [.int (few : Nat), .bytes ov]) (post := []) rfl rfl hk (nrs_avN _) e rfl (adopt_list (by show 1 ≤ 1; (first | lia | omega)) rfl (nrs_avN _))
end
end Mine
end
section
set_option maxRecDepth 100000
namespace Mine
/-! the turns that touch the oval; where two of them meet -/
noncomputable def touchL (n : Nat) (D : List Nat) (T : Nat) : List Nat := (List.range n).filter fun t => (shareL n D T t).length == 1
theorem one_of_all {l : List Nat} {x : Nat} (hn : l.Nodup) (hx : x ∈ l) (ha : ∀ y ∈ l, y = x) : l = [x] := by
  match l, hn, hx, ha with
  | [a], _, _, ha => rw [ha a (by simp)]
  | a :: b :: l, hn, _, ha =>
    have h1 := ha a (by simp)
    have h2 := ha b (by simp)
    exact absurd (h1.trans h2.symm ▸ List.mem_cons_self .. : a ∈ b :: l) (List.nodup_cons.mp hn).1
section
variable {n : Nat} {D : List Nat}
theorem shareL_nodup {T t : Nat} : (shareL n D T t).Nodup := (List.Pairwise.filter _ (List.Pairwise.filter _ List.pairwise_lt_range)).imp fun h => Nat.ne_of_lt h
theorem double_iff {T a b d : Nat} (h : SizeOK n) (hT : T < n) (ha : a < n) (hb : b < n) (hd : d < n) (e : turnOf n T a b = turnOf n T d d) : (n + a - d) % n = (n + d - b) % n :=
  cg_eq (mod_lt' h) (mod_lt' h) ((gap_cg hd).trans (((((turn_cg hT hd hd).symm.trans (cg_of_eq e.symm)).trans (turn_cg hT ha hb)).of 0 (by (first | lia | omega))).trans (gap_cg hb).symm))
theorem turn_comm {T a b : Nat} : turnOf n T a b = turnOf n T b a := by
  unfold turnOf
  rw [Nat.sub_sub, Nat.sub_sub (4 * n - 1 - T), Nat.add_comm]
theorem odd_cg {a d : Nat} (h : SizeOK n) (ha : a < n) (hd : d < n) (c : Cg n (2 * a) (2 * d)) : a = d := by
  obtain ⟨m, hm⟩ : ∃ m : Int, (n : Int) = 2 * m + 1 := by
    rcases h with rfl | rfl | rfl | rfl
    · exact ⟨3, rfl⟩
    · exact ⟨6, rfl⟩
    · exact ⟨10, rfl⟩
    · exact ⟨15, rfl⟩
  obtain ⟨q, e⟩ := c
  refine cg_eq ha hd ⟨a - d - m * q, ?_⟩
  have h1 : (n : Int) * q = 2 * (m * q) + q := by rw [hm, Int.add_mul, Int.one_mul, Int.mul_assoc]
  have h2 : q = 2 * (a - d - m * q) := by (first | lia | omega)
  have h3 : (n : Int) * q = n * (a - d - m * q) * 2 := by
    conv => lhs; rw [h2]
    rw [Int.mul_assoc, Int.mul_comm 2]
  (first | lia | omega)
theorem turn_double_inj {T a d : Nat} (h : SizeOK n) (hT : T < n) (ha : a < n) (hd : d < n) (e : turnOf n T a a = turnOf n T d d) : a = d :=
  odd_cg h ha hd ((((turn_cg hT hd hd).symm.trans (cg_of_eq e.symm)).trans (turn_cg hT ha ha)).of 0 (by (first | lia | omega)))
theorem mem_share2 (h : Dat n D) {T t x : Nat} (hT : T < n) (ht : t < n) : x ∈ shareL n D T t ↔ ∃ a ∈ D, ∃ b ∈ D, turnOf n T a b = t ∧ (a + t) % n = x := by
  rw [mem_shareL]
  constructor
  · rintro ⟨_, ⟨a, ha, e1⟩, b, hb, e2⟩
    refine ⟨a, ha, b, hb, ?_, e1⟩
    rw [turn_iff h.size hT ht (h.lt a ha) (h.lt b hb), e1, e2]
  · rintro ⟨a, ha, b, hb, e, e1⟩
    rw [turn_iff h.size hT ht (h.lt a ha) (h.lt b hb)] at e
    refine ⟨?_, ⟨a, ha, e1⟩, b, hb, e.trans e1⟩
    rw [← e1]
    exact Nat.mod_lt _ (by have := h.size.le; (first | lia | omega))
theorem touch_iff (h : Pds n D) {T t : Nat} (hT : T < n) (ht : t < n) : (shareL n D T t).length = 1 ↔ ∃ d ∈ D, turnOf n T d d = t := by
  have hd := h.toDat
  constructor
  · intro hl
    obtain ⟨x, hx⟩ := List.length_eq_one_iff.mp hl
    obtain ⟨a, ha, b, hb, e, e1⟩ := (mem_share2 hd hT ht).mp (show x ∈ shareL n D T t by rw [hx]; exact List.mem_singleton_self x)
    have h2 := (mem_share2 hd hT ht).mpr ⟨b, hb, a, ha, (turn_comm ..).trans e, rfl⟩
    rw [hx, List.mem_singleton, ← e1] at h2
    have := mod_cancel t hd.size (hd.lt b hb) (hd.lt a ha) h2
    subst this
    exact ⟨b, hb, e⟩
  · rintro ⟨d, hdD, e⟩
    have hx := (mem_share2 hd hT ht).mpr ⟨d, hdD, d, hdD, e, rfl⟩
    rw [one_of_all shareL_nodup hx fun y hy => ?_]
    · rfl
    · obtain ⟨a, ha, b, hb, e2, e3⟩ := (mem_share2 hd hT ht).mp hy
      have hg := double_iff hd.size hT (hd.lt a ha) (hd.lt b hb) (hd.lt d hdD) (e2.trans e.symm)
      by_cases hda : a = d
      · rw [← e3, hda]
      · exact absurd (h.un a ha d hdD d hdD b hb hda hg).1 hda
theorem turn_lt (h : SizeOK n) {T a b : Nat} : turnOf n T a b < n := Nat.mod_lt _ (by have := h.le; (first | lia | omega))
theorem touch_perm (h : Pds n D) {T : Nat} (hT : T < n) : (touchL n D T).Perm (D.map fun d => turnOf n T d d) := by
  have hd := h.toDat
  have h1 : (touchL n D T).Nodup := (List.Pairwise.filter _ List.pairwise_lt_range).imp fun h => Nat.ne_of_lt h
  have h2 : (D.map fun d => turnOf n T d d).Nodup := by
    have : ∀ l : List Nat, (∀ p ∈ l, p < n) → l.Nodup → (l.map fun d => turnOf n T d d).Nodup := by
      intro l
      induction l with
      | nil => intro _ _; exact List.nodup_nil
      | cons a l ih =>
        intro h1 h2
        have h3 := List.nodup_cons.mp h2
        rw [List.map_cons]
        refine List.nodup_cons.mpr ⟨fun hm => ?_, ih (fun p hp => h1 p (List.mem_cons_of_mem _ hp)) h3.2⟩
        obtain ⟨q, hq, e⟩ := List.mem_map.mp hm
        have := turn_double_inj hd.size hT (h1 q (List.mem_cons_of_mem _ hq)) (h1 a (List.mem_cons_self ..)) e
        exact h3.1 (this ▸ hq)
    exact this D hd.lt hd.nd
  rw [List.perm_ext_iff_of_nodup h1 h2]
  intro t
  unfold touchL
  rw [List.mem_filter, List.mem_range, List.mem_map, beq_iff_eq]
  constructor
  · rintro ⟨h1, h2⟩
    exact (touch_iff h hT h1).mp h2
  · rintro ⟨d, hdD, e⟩
    have ht : t < n := e ▸ turn_lt hd.size
    exact ⟨ht, (touch_iff h hT ht).mpr ⟨d, hdD, e⟩⟩
theorem touch_tch (h : Pds n D) {T : Nat} (hT : T < n) : Tch n (touchL n D T) ∧ (touchL n D T).length = D.length := by
  have hl : (touchL n D T).length = D.length := by rw [(touch_perm h hT).length_eq, List.length_map]
  refine ⟨⟨List.Pairwise.filter _ List.pairwise_lt_range, fun t ht => ?_, by rw [hl]; exact h.l6⟩, hl⟩
  unfold touchL at ht
  exact List.mem_range.mp (List.mem_filter.mp ht).1
/-- two lines meet in one place -/
theorem diff_iff {a b e t : Nat} (h : SizeOK n) (ha : a < n) (hb : b < n) (het : e < t) (ht : t < n) : (b + t) % n = (a + e) % n ↔ (n + a - b) % n = t - e := by
  have c1 := cg_mod n (b + t)
  have c2 := cg_mod n (a + e)
  have c3 := gap_cg (n := n) (a := a) hb
  constructor
  · intro i
    rw [i] at c1
    exact cg_eq (mod_lt' h) (by (first | lia | omega)) (c3.trans ((c2.symm.trans c1).of 0 (by (first | lia | omega))))
  · intro i
    rw [i] at c3
    exact cg_eq (mod_lt' h) (mod_lt' h) (c1.trans ((c3.of 0 (by (first | lia | omega))).trans c2.symm))
noncomputable abbrev crossL (n : Nat) (D : List Nat) (t e : Nat) : List Nat := (lineN n D t).filter fun x => (lineN n D e).contains x
theorem cross_eq (h : Pds n D) {e t : Nat} (het : e < t) (ht : t < n) : crossL n D t e = [(e + oneOf n D (t - e)) % n] := by
  have hd := h.toDat
  obtain ⟨a, ha, b, hb, hg⟩ := h.ex (t - e) (by (first | lia | omega)) (by (first | lia | omega))
  have hab : a ≠ b := by
    intro hab
    subst hab
    rw [gap_zero] at hg
    (first | lia | omega)
  have ho : oneOf n D (t - e) = a := by rw [← hg]; exact oneOf_eq h ha hb hab
  have hbt := (diff_iff hd.size (hd.lt a ha) (hd.lt b hb) het ht).mpr hg
  have hxn : (a + e) % n < n := Nat.mod_lt _ (by have := hd.size.le; (first | lia | omega))
  rw [ho, Nat.add_comm e a]
  refine one_of_all ((List.Pairwise.filter _ (List.Pairwise.filter _ List.pairwise_lt_range)).imp fun h => Nat.ne_of_lt h) ?_ fun y hy => ?_
  · rw [List.mem_filter, List.contains_iff_mem, mem_lineN, mem_lineN]
    exact ⟨⟨hxn, b, hb, hbt⟩, hxn, a, ha, rfl⟩
  · rw [List.mem_filter, List.contains_iff_mem, mem_lineN, mem_lineN] at hy
    obtain ⟨⟨_, p, hp, e1⟩, _, q, hq, e2⟩ := hy
    have hg2 := (diff_iff hd.size (hd.lt q hq) (hd.lt p hp) het ht).mp (e1.trans e2.symm)
    have := (h.un a ha b hb q hq p hp hab (hg.trans hg2.symm)).1
    rw [← e2, this]
end
end Mine
end
section
set_option maxRecDepth 100000
namespace Mine
/-! how many touching lines run through a place -/
noncomputable def cnt (n : Nat) (D : List Nat) (u : Nat) : Nat := (D.filter fun d => D.contains ((u + 2 * d) % n)).length
structure Arc (n : Nat) (D : List Nat) : Prop extends Pds n D where
  even : D.length % 2 = 0 → ∀ u, u < n → if D.contains ((n - u) % n) = true then cnt n D u = 1 else cnt n D u = 0 ∨ cnt n D u = 2
  odd : D.length % 2 = 1 → ∃ u0, u0 < n ∧ ∀ u, u < n → cnt n D u = if u = u0 then D.length else 1
section
variable {n : Nat} {D : List Nat}
noncomputable abbrev throughN (n : Nat) (D : List Nat) (T x : Nat) : Nat := ((touchL n D T).filter fun t => (lineN n D t).contains x).length
theorem on_iff {T x d p : Nat} (h : SizeOK n) (hT : T < n) (hx : x < n) (hd : d < n) (hp : p < n) : (p + turnOf n T d d) % n = x ↔ p = (x + 1 + T + 2 * d) % n := by
  have c1 := turn_cg hT hd hd
  have c2 := cg_mod n (p + turnOf n T d d)
  have c3 := cg_mod n (x + 1 + T + 2 * d)
  constructor
  · intro e
    rw [e] at c2
    exact cg_eq hp (mod_lt' h) (((c1.add c2).symm.of 0 (by (first | lia | omega))).trans c3.symm)
  · intro e
    rw [← e] at c3
    exact cg_eq (mod_lt' h) hx (c2.trans ((c3.add c1).of 0 (by (first | lia | omega))))
theorem lies_iff {T x b : Nat} (h : SizeOK n) (hT : T < n) (hx : x < n) (hb : b < n) : (2 * n - 1 - b - T) % n = x ↔ b = (n - (x + 1 + T) % n) % n := by
  have c1 := lies_cg hb hT
  have c2 := cg_mod n (x + 1 + T)
  have c3 := gap_cg (n := n) (a := 0) (mod_lt' (x := x + 1 + T) h)
  rw [Nat.add_zero] at c3
  constructor
  · intro e
    rw [e] at c1
    exact cg_eq hb (mod_lt' h) (((c1.add c2).of 0 (by (first | lia | omega))).trans c3.symm)
  · intro e
    rw [← e] at c3
    exact cg_eq (mod_lt' h) hx (c1.trans ((c2.sub c3).of 0 (by (first | lia | omega))))
theorem lies_contains (h : Dat n D) {T x : Nat} (hT : T < n) (hx : x < n) : (liesL n D T).contains x = D.contains ((n - (x + 1 + T) % n) % n) := by
  rw [Bool.eq_iff_iff, List.contains_iff_mem, List.contains_iff_mem, mem_liesL]
  constructor
  · rintro ⟨b, hb, e⟩
    rw [← (lies_iff h.size hT hx (h.lt b hb)).mp e]
    exact hb
  · intro hm
    exact ⟨_, hm, (lies_iff h.size hT hx (h.lt _ hm)).mpr rfl⟩
theorem through_cnt (h : Pds n D) {T x : Nat} (hT : T < n) (hx : x < n) : throughN n D T x = cnt n D ((x + 1 + T) % n) := by
  have hd := h.toDat
  unfold throughN cnt
  rw [((touch_perm h hT).filter _).length_eq, List.filter_map, List.length_map]
  congr 1
  apply List.filter_congr
  intro d hdD
  show (lineN n D (turnOf n T d d)).contains x = _
  rw [Nat.mod_add_mod, Bool.eq_iff_iff, List.contains_iff_mem, List.contains_iff_mem, mem_lineN]
  constructor
  · rintro ⟨_, p, hp, e⟩
    rw [← (on_iff hd.size hT hx (hd.lt d hdD) (hd.lt p hp)).mp e]
    exact hp
  · intro hm
    exact ⟨hx, _, hm, (on_iff hd.size hT hx (hd.lt d hdD) (hd.lt _ hm)).mpr rfl⟩
theorem two_filter {l : List Nat} {P : Nat → Bool} (hl : l.Pairwise (· < ·)) : 2 ≤ (l.filter P).length ↔ ∃ (i : Nat) (t e : Nat), l[i]? = some t ∧ e ∈ l.take i ∧ P t = true ∧ P e = true := by
  constructor
  · intro h2
    have hs := List.Pairwise.filter P hl
    match hf : l.filter P, h2, hs with
    | e :: t :: r, _, hs =>
      have he : e ∈ l.filter P := by rw [hf]; simp
      have ht : t ∈ l.filter P := by rw [hf]; simp
      have hlt : e < t := (List.pairwise_cons.mp hs).1 t (List.mem_cons_self ..)
      obtain ⟨he1, he2⟩ := List.mem_filter.mp he
      obtain ⟨ht1, ht2⟩ := List.mem_filter.mp ht
      obtain ⟨i, hi, hit⟩ := List.getElem_of_mem ht1
      obtain ⟨j, hj, hje⟩ := List.getElem_of_mem he1
      have hji : j < i := by
        rcases Nat.lt_trichotomy j i with h | h | h
        · exact h
        · subst h; (first | lia | omega)
        · have := List.pairwise_iff_getElem.mp hl i j hi hj h
          (first | lia | omega)
      refine ⟨i, t, e, by rw [List.getElem?_eq_getElem hi, hit], ?_, ht2, he2⟩
      rw [← hje]
      exact List.mem_take_iff_getElem.mpr ⟨j, by (first | lia | omega), rfl⟩
    | [], h2, _ => simp at h2
    | [_], h2, _ => simp at h2
  · rintro ⟨i, t, e, hi, he, ht, hPe⟩
    have hel := List.mem_of_mem_take he
    have htl := List.mem_of_getElem? hi
    have hne : e ≠ t := by
      obtain ⟨j, hj, rfl⟩ := List.getElem_of_mem he
      have hil := (List.getElem?_eq_some_iff.mp hi).1
      rw [List.length_take] at hj
      rw [List.getElem_take]
      have := List.pairwise_iff_getElem.mp hl j i (by (first | lia | omega)) hil (by (first | lia | omega))
      rw [(List.getElem?_eq_some_iff.mp hi).2] at this
      (first | lia | omega)
    have h1 : e ∈ l.filter P := List.mem_filter.mpr ⟨hel, hPe⟩
    have h2 : t ∈ l.filter P := List.mem_filter.mpr ⟨htl, ht⟩
    match hf : l.filter P with
    | [] => rw [hf] at h1; cases h1
    | [z] =>
      rw [hf, List.mem_singleton] at h1 h2
      exact absurd (h1.trans h2.symm) hne
    | _ :: _ :: _ => simp
theorem mem_meets {tch : List Nat} : ∀ {r x : Nat}, x ∈ meetsL n D tch r ↔ ∃ i, i < r ∧ ∃ e ∈ tch.take i, (e + oneOf n D (tch.getD i 0 - e)) % n = x := by
  intro r x
  unfold meetsL meetRow
  rw [List.mem_flatMap]
  constructor
  · rintro ⟨i, hi, hx⟩
    exact ⟨i, List.mem_range.mp hi, List.mem_map.mp hx⟩
  · rintro ⟨i, hi, hx⟩
    exact ⟨i, List.mem_range.mpr hi, List.mem_map.mpr hx⟩
theorem meets_two (h : Pds n D) {T x : Nat} (hT : T < n) : x ∈ meetsL n D (touchL n D T) (touchL n D T).length ↔ 2 ≤ throughN n D T x := by
  obtain ⟨K, hl⟩ := touch_tch h hT
  unfold throughN
  rw [mem_meets, two_filter K.up]
  constructor
  · rintro ⟨i, hi, e, he, hx⟩
    have hit : (touchL n D T)[i]? = some (touchL n D T)[i] := List.getElem?_eq_getElem hi
    rw [List.getD_eq_getElem?_getD, hit] at hx
    have hlt := K.early hit he
    have htn := K.lt _ (List.getElem_mem hi)
    have hc := cross_eq h hlt htn
    have hm : x ∈ crossL n D (touchL n D T)[i] e := by
      rw [hc, List.mem_singleton]
      exact hx.symm
    obtain ⟨h1, h2⟩ := List.mem_filter.mp hm
    exact ⟨i, _, e, hit, he, List.contains_iff_mem.mpr h1, h2⟩
  · rintro ⟨i, t, e, hit, he, h1, h2⟩
    have hlt := K.early hit he
    have htn := K.lt _ (List.mem_of_getElem? hit)
    have hm : x ∈ crossL n D t e := List.mem_filter.mpr ⟨List.contains_iff_mem.mp h1, h2⟩
    rw [cross_eq h hlt htn, List.mem_singleton] at hm
    refine ⟨i, (List.getElem?_eq_some_iff.mp hit).1, e, he, ?_⟩
    rw [List.getD_eq_getElem?_getD, hit]
    exact hm.symm
end
end Mine
end
section
set_option maxRecDepth 100000
namespace Mine
section
variable {n : Nat} {D : List Nat}
theorem zip_range (f : Nat → Nat) (n : Nat) : ((List.range n).map f).zipIdx = (List.range n).map fun x => (f x, x) := by
  apply List.ext_getElem?
  intro i
  rw [List.getElem?_zipIdx, List.getElem?_map, List.getElem?_map]
  by_cases hi : i < n
  · rw [List.getElem?_range hi, Nat.zero_add]
    rfl
  · rw [List.getElem?_eq_none (l := List.range n) (by simpa using hi)]
    rfl
theorem counts_even (h : Arc n D) (he : D.length % 2 = 0) {T : Nat} (hT : T < n) :
    (List.range n).map (throughN n D T) = (maskL n (liesL n D T)).zipIdx.map (evenV (meetsL n D (touchL n D T) (touchL n D T).length)) := by
  unfold maskL
  rw [zip_range, List.map_map]
  apply List.map_congr_left
  intro x hx
  have hxn := List.mem_range.mp hx
  have hn := h.size.le
  show throughN n D T x = evenV _ (if (liesL n D T).contains x = true then 1 else 0, x)
  have hu : (x + 1 + T) % n < n := Nat.mod_lt _ (by (first | lia | omega))
  have hE := h.even he _ hu
  have hc := through_cnt h.toPds hT hxn
  have hm := meets_two (x := x) h.toPds hT
  rw [hc] at hm
  rw [hc, lies_contains h.toDat hT hxn]
  unfold evenV
  by_cases hl : D.contains ((n - (x + 1 + T) % n) % n) = true
  · rw [if_pos hl] at hE
    simp only [if_pos hl]
    rw [hE]
    rfl
  · rw [if_neg hl] at hE
    simp only [if_neg hl]
    rw [if_neg (by decide)]
    rcases hE with hE | hE
    · rw [hE, if_neg]
      rw [List.contains_iff_mem, hm, hE]
      (first | lia | omega)
    · rw [hE, if_pos]
      rw [List.contains_iff_mem, hm, hE]
      (first | lia | omega)
theorem u_inj {T x y : Nat} (h : SizeOK n) (hx : x < n) (hy : y < n) (e : (x + 1 + T) % n = (y + 1 + T) % n) : x = y :=
  cg_eq hx hy ((((cg_mod n (x + 1 + T)).symm.trans (cg_of_eq e)).trans (cg_mod n (y + 1 + T))).of 0 (by (first | lia | omega)))
theorem counts_odd (h : Arc n D) (ho : D.length % 2 = 1) {T : Nat} (hT : T < n) : ∃ m0, (meetsL n D (touchL n D T) (touchL n D T).length)[0]? = some m0 ∧
    (List.range n).map (throughN n D T) = (List.range n).map fun x => if (x == m0) = true then D.length else 1 := by
  obtain ⟨K, hl⟩ := touch_tch h.toPds hT
  have hn := h.size.le
  have h3 := h.l3
  obtain ⟨t0, hm⟩ : ∃ m0, (meetsL n D (touchL n D T) (touchL n D T).length)[0]? = some m0 := by
    have hne : 0 < (meetsL n D (touchL n D T) (touchL n D T).length).length := by
      rcases Nat.eq_zero_or_pos (meetsL n D (touchL n D T) (touchL n D T).length).length with h0 | h0
      · have hnil := List.length_eq_zero_iff.mp h0
        have : (0 + oneOf n D ((touchL n D T).getD 1 0 - 0)) % n ∈ meetsL n D (touchL n D T) (touchL n D T).length ∨ True := .inr trivial
        have h1 : (touchL n D T)[0]? = some ((touchL n D T)[0]'(by (first | lia | omega))) := List.getElem?_eq_getElem _
        have hin := (mem_meets (n := n) (D := D) (tch := touchL n D T) (r := (touchL n D T).length) (x := ((touchL n D T)[0]'(by (first | lia | omega)) + oneOf n D ((touchL n D T).getD 1 0 - (touchL n D T)[0]'(by (first | lia | omega)))) % n)).mpr ⟨1, by (first | lia | omega), (touchL n D T)[0]'(by (first | lia | omega)), List.mem_take_iff_getElem.mpr ⟨0, by (first | lia | omega), rfl⟩, rfl⟩
        rw [hnil] at hin
        cases hin
      · exact h0
    exact ⟨_, List.getElem?_eq_getElem hne⟩
  refine ⟨t0, hm, ?_⟩
  have hmem := List.mem_of_getElem? hm
  have htn : t0 < n := by
    obtain ⟨i, _, e, _, rfl⟩ := mem_meets.mp hmem
    exact Nat.mod_lt _ (by (first | lia | omega))
  obtain ⟨u0, hu0, hO⟩ := h.odd ho
  have h2 := (meets_two h.toPds hT).mp hmem
  rw [through_cnt h.toPds hT htn, hO _ (Nat.mod_lt _ (by (first | lia | omega)))] at h2
  have hu : (t0 + 1 + T) % n = u0 := by
    by_cases hc : (t0 + 1 + T) % n = u0
    · exact hc
    · rw [if_neg hc] at h2; (first | lia | omega)
  apply List.map_congr_left
  intro x hx
  have hxn := List.mem_range.mp hx
  rw [through_cnt h.toPds hT hxn, hO _ (Nat.mod_lt _ (by (first | lia | omega)))]
  by_cases hxt : x = t0
  · rw [hxt, if_pos hu, if_pos (beq_self_eq_true _)]
  · rw [if_neg (fun he => hxt (u_inj h.size hxn htn (he.trans hu.symm))), if_neg (by simpa using hxt)]
end
end Mine
end
section
set_option maxRecDepth 100000
namespace Mine
/-! the shift drops out -/
section
variable {n : Nat} {E : List Nat}
theorem gap_shift {a b h : Nat} (hs : SizeOK n) (ha : a < n) (hb : b < n) (hh : h < n) : (n + (a + h) % n - (b + h) % n) % n = (n + a - b) % n :=
  cg_eq (mod_lt' hs) (mod_lt' hs) (((gap_cg (mod_lt' hs)).trans (((cg_mod n (a + h)).sub (cg_mod n (b + h))).of 0 (by (first | lia | omega)))).trans (gap_cg hb).symm)
theorem cnt_iff {u e p h : Nat} (hs : SizeOK n) (hu : u < n) (he : e < n) (hp : p < n) (hh : h < n) : (p + h) % n = (u + 2 * ((e + h) % n)) % n ↔ p = ((u + h) % n + 2 * e) % n := by
  have c1 := cg_mod n (p + h)
  have c2 := cg_mod n (u + 2 * ((e + h) % n))
  have c3 := cg_mod n (e + h)
  have c4 := cg_mod n ((u + h) % n + 2 * e)
  have c5 := cg_mod n (u + h)
  have c6 : Cg n ((u + 2 * ((e + h) % n) : Nat) : Int) ((u + 2 * (e + h) : Nat) : Int) := (c3.add c3).of 0 (by (first | lia | omega))
  have c7 : Cg n (((u + h) % n + 2 * e : Nat) : Int) ((u + h + 2 * e : Nat) : Int) := c5.of 0 (by (first | lia | omega))
  have c8 := c2.trans c6
  have c9 := c4.trans c7
  constructor
  · intro i
    rw [i] at c1
    exact cg_eq hp (mod_lt' hs) (((c1.symm.trans c8).of 0 (by (first | lia | omega))).trans c9.symm)
  · intro i
    rw [← i] at c9
    exact cg_eq (mod_lt' hs) (mod_lt' hs) (c1.trans ((c9.of 0 (by (first | lia | omega))).trans c8.symm))
theorem neg_iff {u p h : Nat} (hs : SizeOK n) (hu : u < n) (hp : p < n) (hh : h < n) : (p + h) % n = (n - u) % n ↔ p = (n - (u + h) % n) % n := by
  have c1 := cg_mod n (p + h)
  have c2 := gap_cg (n := n) (a := 0) hu
  have c3 := cg_mod n (u + h)
  have c4 := gap_cg (n := n) (a := 0) (mod_lt' (x := u + h) hs)
  rw [Nat.add_zero] at c2 c4
  constructor
  · intro i
    rw [i] at c1
    exact cg_eq hp (mod_lt' hs) ((((c1.symm.trans c2).add c3).of 0 (by (first | lia | omega))).trans c4.symm)
  · intro i
    rw [← i] at c4
    exact cg_eq (mod_lt' hs) (mod_lt' hs) (c1.trans (((c4.sub c3).of 0 (by (first | lia | omega))).trans c2.symm))
theorem u0_iff {u u0 h : Nat} (hs : SizeOK n) (hu : u < n) (h0 : u0 < n) (hh : h < n) : (u + h) % n = u0 ↔ u = (u0 + n - h) % n := by
  have c1 := cg_mod n (u + h)
  have c2 := gap_cg (n := n) (a := u0) hh
  rw [Nat.add_comm n u0] at c2
  constructor
  · intro i
    rw [i] at c1
    exact cg_eq hu (mod_lt' hs) ((c1.symm.of 0 (by (first | lia | omega))).trans c2.symm)
  · intro i
    rw [← i] at c2
    exact cg_eq (mod_lt' hs) h0 (c1.trans (c2.of 0 (by (first | lia | omega))))
theorem cnt_shift (hd : Dat n E) {u h : Nat} (hu : u < n) (hh : h < n) : cnt n (movedL n E h) u = cnt n E ((u + h) % n) := by
  unfold cnt movedL
  rw [List.filter_map, List.length_map]
  congr 1
  apply List.filter_congr
  intro e he
  show (E.map fun p => (p + h) % n).contains ((u + 2 * ((e + h) % n)) % n) = _
  rw [Bool.eq_iff_iff, List.contains_iff_mem, List.contains_iff_mem, List.mem_map]
  constructor
  · rintro ⟨p, hp, e1⟩
    rw [← (cnt_iff hd.size hu (hd.lt e he) (hd.lt p hp) hh).mp e1]
    exact hp
  · intro hm
    exact ⟨_, hm, (cnt_iff hd.size hu (hd.lt e he) (hd.lt _ hm) hh).mpr rfl⟩
theorem arc_shift (A : Arc n E) {h : Nat} (hh : h < n) : Arc n (movedL n E h) := by
  have hd := A.toDat
  have hn := hd.size.le
  have hmem : ∀ {x}, x ∈ movedL n E h ↔ ∃ a ∈ E, (a + h) % n = x := List.mem_map
  refine { size := hd.size, nd := movedL_nodup hd h, lt := fun x hx => ?_, l3 := by rw [List.length_map]; exact hd.l3, l6 := by rw [List.length_map]; exact hd.l6, ex := fun g h1 h2 => ?_, un := ?_, even := fun he u hu => ?_, odd := fun ho => ?_ }
  · obtain ⟨a, _, rfl⟩ := hmem.mp hx
    exact Nat.mod_lt _ (by (first | lia | omega))
  · obtain ⟨a, ha, b, hb, e⟩ := A.ex g h1 h2
    exact ⟨_, hmem.mpr ⟨a, ha, rfl⟩, _, hmem.mpr ⟨b, hb, rfl⟩, (gap_shift hd.size (hd.lt a ha) (hd.lt b hb) hh).trans e⟩
  · intro a ha b hb c hc d hdd hab e
    obtain ⟨a', ha', rfl⟩ := hmem.mp ha
    obtain ⟨b', hb', rfl⟩ := hmem.mp hb
    obtain ⟨c', hc', rfl⟩ := hmem.mp hc
    obtain ⟨d', hd', rfl⟩ := hmem.mp hdd
    rw [gap_shift hd.size (hd.lt a' ha') (hd.lt b' hb') hh, gap_shift hd.size (hd.lt c' hc') (hd.lt d' hd') hh] at e
    obtain ⟨e1, e2⟩ := A.un a' ha' b' hb' c' hc' d' hd' (fun he => hab (by rw [he])) e
    rw [e1, e2]
    exact ⟨rfl, rfl⟩
  · rw [List.length_map] at he
    have hu' : (u + h) % n < n := Nat.mod_lt _ (by (first | lia | omega))
    have := A.even he _ hu'
    rw [cnt_shift hd hu hh]
    have hc : (movedL n E h).contains ((n - u) % n) = E.contains ((n - (u + h) % n) % n) := by
      rw [Bool.eq_iff_iff, List.contains_iff_mem, List.contains_iff_mem, hmem]
      constructor
      · rintro ⟨p, hp, e1⟩
        rw [← (neg_iff hd.size hu (hd.lt p hp) hh).mp e1]
        exact hp
      · intro hm
        exact ⟨_, hm, (neg_iff hd.size hu (hd.lt _ hm) hh).mpr rfl⟩
    rw [hc]
    exact this
  · rw [List.length_map] at ho ⊢
    obtain ⟨u0, hu0, hO⟩ := A.odd ho
    refine ⟨(u0 + n - h) % n, Nat.mod_lt _ (by (first | lia | omega)), fun u hu => ?_⟩
    rw [cnt_shift hd hu hh, hO _ (Nat.mod_lt _ (by (first | lia | omega)))]
    by_cases hc : (u + h) % n = u0
    · rw [if_pos hc, if_pos ((u0_iff hd.size hu hu0 hh).mp hc)]
    · rw [if_neg hc, if_neg fun he => hc ((u0_iff hd.size hu hu0 hh).mpr he)]
end
/-! the sixty cases -/
noncomputable def arcB (n : Nat) (E : List Nat) : Bool :=
  decide E.Nodup && (E.all fun p => decide (p < n)) && decide (3 ≤ E.length) && decide (E.length ≤ 6) &&
  ((List.range n).all fun g => g == 0 || E.any fun a => E.any fun b => (n + a - b) % n == g) &&
  (E.all fun a => E.all fun b => a == b || E.all fun c => E.all fun d => (n + a - b) % n != (n + c - d) % n || (a == c && b == d)) &&
  (if E.length % 2 = 0 then (List.range n).all fun u => if E.contains ((n - u) % n) then cnt n E u == 1 else cnt n E u == 0 || cnt n E u == 2
   else (List.range n).any fun u0 => (List.range n).all fun u => cnt n E u == if u == u0 then E.length else 1)
noncomputable def seedsOf : Nat → Nat × List Nat
  | 0 => (13, [0, 1, 3, 9])
  | 1 => (21, [0, 1, 4, 14, 16])
  | 2 => (7, [0, 1, 3])
  | _ => (31, [0, 1, 3, 8, 12, 18])
noncomputable def unitsOf (n : Nat) : List Nat := (List.range' 1 (n - 1)).filter fun u => n != 21 || decide (0 < u % 3 * (u % 7))
noncomputable abbrev timesL (n t : Nat) (S : List Nat) : List Nat := S.map fun s => t * s % n
theorem cases_ok : ((List.range 4).all fun r => (unitsOf (seedsOf r).1).all fun t => arcB (seedsOf r).1 (timesL (seedsOf r).1 t (seedsOf r).2)) = true := by decide +kernel
end Mine
end
section
set_option maxRecDepth 100000
namespace Mine
theorem arc_of {n : Nat} {E : List Nat} (hs : SizeOK n) (h : arcB n E = true) : Arc n E := by
  unfold arcB at h
  rw [Bool.and_eq_true, Bool.and_eq_true, Bool.and_eq_true, Bool.and_eq_true, Bool.and_eq_true, Bool.and_eq_true] at h
  obtain ⟨⟨⟨⟨⟨⟨h1, h2⟩, h3⟩, h4⟩, h5⟩, h6⟩, h7⟩ := h
  refine { size := hs, nd := of_decide_eq_true h1, lt := fun p hp => of_decide_eq_true (List.all_eq_true.mp h2 p hp), l3 := of_decide_eq_true h3, l6 := of_decide_eq_true h4, ex := fun g hg hgn => ?_, un := fun a ha b hb c hc d hd hab e => ?_, even := fun he u hu => ?_, odd := fun ho => ?_ }
  · have := List.all_eq_true.mp h5 g (List.mem_range.mpr hgn)
    rw [Bool.or_eq_true] at this
    rcases this with h | h
    · have := eq_of_beq h; (first | lia | omega)
    · obtain ⟨a, ha, h⟩ := List.any_eq_true.mp h
      obtain ⟨b, hb, h⟩ := List.any_eq_true.mp h
      exact ⟨a, ha, b, hb, eq_of_beq h⟩
  · have := List.all_eq_true.mp (List.all_eq_true.mp h6 a ha) b hb
    rw [Bool.or_eq_true] at this
    rcases this with h | h
    · exact absurd (eq_of_beq h) hab
    · have := List.all_eq_true.mp (List.all_eq_true.mp h c hc) d hd
      rw [Bool.or_eq_true] at this
      rcases this with h | h
      · exact absurd e (by simpa using h)
      · rw [Bool.and_eq_true] at h
        exact ⟨eq_of_beq h.1, eq_of_beq h.2⟩
  · rw [if_pos he] at h7
    have := List.all_eq_true.mp h7 u (List.mem_range.mpr hu)
    split
    · rename_i hc
      rw [if_pos hc] at this
      exact eq_of_beq this
    · rename_i hc
      rw [if_neg hc, Bool.or_eq_true] at this
      rcases this with h | h
      · exact .inl (eq_of_beq h)
      · exact .inr (eq_of_beq h)
  · rw [if_neg (by (first | lia | omega))] at h7
    obtain ⟨u0, hu0, h⟩ := List.any_eq_true.mp h7
    refine ⟨u0, List.mem_range.mp hu0, fun u hu => ?_⟩
    have := eq_of_beq (List.all_eq_true.mp h u (List.mem_range.mpr hu))
    rw [this]
    by_cases hc : u = u0
    · rw [if_pos hc, if_pos (by rw [hc]; exact beq_self_eq_true _)]
    · rw [if_neg hc, if_neg (by simpa using hc)]
theorem seeds_size (r : Nat) : SizeOK (seedsOf r).1 := by
  match r with
  | 0 => exact .inr (.inl rfl)
  | 1 => exact .inr (.inr (.inl rfl))
  | 2 => exact .inl rfl
  | r + 3 => exact .inr (.inr (.inr rfl))
theorem arc_case {r t h : Nat} (hr : r < 4) (ht : t ∈ unitsOf (seedsOf r).1) : Arc (seedsOf r).1 (movedL (seedsOf r).1 (timesL (seedsOf r).1 t (seedsOf r).2) h) := by
  have h1 := List.all_eq_true.mp (List.all_eq_true.mp cases_ok r (List.mem_range.mpr hr)) t ht
  have hs := seeds_size r
  have A := arc_of hs h1
  have := hs.le
  have hm := arc_shift A (h := h % (seedsOf r).1) (Nat.mod_lt _ (by (first | lia | omega)))
  have e : ∀ l : List Nat, movedL (seedsOf r).1 l (h % (seedsOf r).1) = movedL (seedsOf r).1 l h := fun l => by
    apply List.map_congr_left
    intro p _
    exact Nat.add_mod_mod ..
  rw [e] at hm
  exact hm
end Mine
end
section
set_option maxRecDepth 100000
namespace Mine
theorem compE_tupM {α : Type} {ef : EF} {cap : List (Option Nat)} {ρ : Fm} {cs : List (Option AV)} {σ σ1 : St} {N : Nat} (emb res : α → AV) {f : EF} {l : List α} (hf : f ρ σ = some (.tup (l.map emb), σ1)) (hl : l.length < N) (hc : capρ cap ρ = none :: cs)
    (h : ∀ a ∈ l, ef (some (emb a) :: cs) σ1 = some (res a, σ1)) : compE false N cap (seqI f) (nameA 0) trueT ef ρ σ = some (.ref σ1.length, σ1 ++ [.list (l.map res)]) := by
  have hy : Yields false (fun s => s = σ1) (.tup (l.map emb) 0) ((l.map emb).drop 0) := yields_tup _ 0 (Nat.add_zero _)
  rw [List.drop_zero] at hy
  have hs : seqI f ρ σ = some (.tup (l.map emb) 0, σ1) := by
    unfold seqI
    rw [hf, Option.bind_some]
  unfold compE
  rw [hs, Option.bind_some, hc]
  dsimp only
  have hg := compGo_pick (tt := false) (tf := nameA 0) (ts := trueT) (ef := ef) (N := N) (ρ := none :: cs) (σ := σ1) emb res (fun _ => true) (fun ρ => ∃ x, ρ = x :: cs) hy hl ⟨none, rfl⟩ fun a ha ρ hr => by
    obtain ⟨x, rfl⟩ := hr
    exact ⟨some (emb a) :: cs, ⟨_, rfl⟩, rfl, rfl, fun _ => h a ha⟩
  rw [pick_all] at hg
  rw [hg]
  rfl
theorem chosen_s1 {k r : Nat} (hr : k % 4 = r) (hr4 : r < 4) {f h : AV} : law_chosen_s1 [some (.int (k : Nat)), some f, some h, none, none, none, none] [] = some (.next, [some (.int (k : Nat)), some f, some h, some (.int ((seedsOf r).1 : Nat)), none, none, none], []) := by
  have m : modO (.int (k : Nat)) (.int 4) [] = some (.int ((k % 4 : Nat) : Int), []) := modO_nat (b := 4) (by (first | lia | omega))
  rw [hr] at m
  refine asg_at (bin_at (a := .tup [.int 13, .int 21, .int 7, .int 31]) rfl (bin_at rfl rfl m) ?_)
  match r, hr4 with
  | 0, _ => rfl
  | 1, _ => rfl
  | 2, _ => rfl
  | 3, _ => rfl
theorem chosen_s2 {k r : Nat} (hr : k % 4 = r) (hr4 : r < 4) {f h z : AV} : law_chosen_s2 [some (.int (k : Nat)), some f, some h, some z, none, none, none] [] = some (.next, [some (.int (k : Nat)), some f, some h, some z, some (.tup (avN (seedsOf r).2)), none, none], []) := by
  have m : modO (.int (k : Nat)) (.int 4) [] = some (.int ((k % 4 : Nat) : Int), []) := modO_nat (b := 4) (by (first | lia | omega))
  rw [hr] at m
  refine asg_at (bin_at (a := .tup [.tup (avN [0, 1, 3, 9]), .tup (avN [0, 1, 4, 14, 16]), .tup (avN [0, 1, 3]), .tup (avN [0, 1, 3, 8, 12, 18])]) rfl (bin_at rfl rfl m) ?_)
  match r, hr4 with
  | 0, _ => rfl
  | 1, _ => rfl
  | 2, _ => rfl
  | 3, _ => rfl
section
variable (x0 x1 x2 x4 x6 : Option AV)
theorem units_0 : law_chosen_s3 [x0, x1, x2, some (.int ((13 : Nat) : Int)), x4, none, x6] [] = some (.next, [x0, x1, x2, some (.int ((13 : Nat) : Int)), x4, some (.ref 0), x6], [.list (avN (unitsOf 13))]) := by kernel_rfl
theorem units_1 : law_chosen_s3 [x0, x1, x2, some (.int ((21 : Nat) : Int)), x4, none, x6] [] = some (.next, [x0, x1, x2, some (.int ((21 : Nat) : Int)), x4, some (.ref 0), x6], [.list (avN (unitsOf 21))]) := by kernel_rfl
theorem units_2 : law_chosen_s3 [x0, x1, x2, some (.int ((7 : Nat) : Int)), x4, none, x6] [] = some (.next, [x0, x1, x2, some (.int ((7 : Nat) : Int)), x4, some (.ref 0), x6], [.list (avN (unitsOf 7))]) := by kernel_rfl
theorem units_3 : law_chosen_s3 [x0, x1, x2, some (.int ((31 : Nat) : Int)), x4, none, x6] [] = some (.next, [x0, x1, x2, some (.int ((31 : Nat) : Int)), x4, some (.ref 0), x6], [.list (avN (unitsOf 31))]) := by kernel_rfl
theorem units_at {r : Nat} (hr4 : r < 4) : law_chosen_s3 [x0, x1, x2, some (.int ((seedsOf r).1 : Nat)), x4, none, x6] [] = some (.next, [x0, x1, x2, some (.int ((seedsOf r).1 : Nat)), x4, some (.ref 0), x6], [.list (avN (unitsOf (seedsOf r).1))]) := by
  match r, hr4 with
  | 0, _ => exact units_0 ..
  | 1, _ => exact units_1 ..
  | 2, _ => exact units_2 ..
  | 3, _ => exact units_3 ..
end
end Mine
end
section
set_option maxRecDepth 100000
namespace Mine
theorem units_len : ∀ r, r < 4 → 0 < (unitsOf (seedsOf r).1).length ∧ (unitsOf (seedsOf r).1).length ≤ 30 := by decide +kernel
theorem units_lt : ∀ r, r < 4 → ∀ u ∈ unitsOf (seedsOf r).1, u < 31 := by decide +kernel
theorem mulO_nat {a b : Nat} {σ : St} (ha : a ≤ 1000000) : mulO (.int (a : Nat)) (.int (b : Nat)) σ = some (.int ((a * b : Nat) : Int), σ) := by
  unfold mulO
  dsimp only
  rw [if_pos (by unfold i64; rw [Int.natAbs_natCast]; exact decide_eq_true (by (first | lia | omega)))]
  congr 2
theorem chosen_f (k f h : Nat) (σ : St) : ∃ r t, r < 4 ∧ t ∈ unitsOf (seedsOf r).1 ∧
    op_law_chosen_f [.int (k : Nat), .int (f : Nat), .int (h : Nat)] σ = some (.tup [.int ((seedsOf r).1 : Nat), .ref σ.length], σ ++ [.list (avN (movedL (seedsOf r).1 (timesL (seedsOf r).1 t (seedsOf r).2) h))]) := by
  have hr4 : k % 4 < 4 := Nat.mod_lt _ (by (first | lia | omega))
  generalize hr : k % 4 = r at hr4
  obtain ⟨hu0, hu30⟩ := units_len r hr4
  have hfl := Nat.mod_lt f hu0
  have hn := (seeds_size r).le
  have hut : (unitsOf (seedsOf r).1)[f % (unitsOf (seedsOf r).1).length]? = some ((unitsOf (seedsOf r).1)[f % (unitsOf (seedsOf r).1).length]) := List.getElem?_eq_getElem hfl
  have hmem := List.getElem_mem hfl
  generalize (unitsOf (seedsOf r).1)[f % (unitsOf (seedsOf r).1).length] = t at hut hmem
  refine ⟨r, t, hr4, hmem, ?_⟩
  have ht31 := units_lt r hr4 t hmem
  have e1 := chosen_s1 hr hr4 (f := .int (f : Nat)) (h := .int (h : Nat))
  have e2 := chosen_s2 hr hr4 (f := .int (f : Nat)) (h := .int (h : Nat)) (z := .int ((seedsOf r).1 : Nat))
  have e3 := units_at (some (.int (k : Nat))) (some (.int (f : Nat))) (some (.int (h : Nat))) (some (.tup (avN (seedsOf r).2))) none hr4
  generalize hU : unitsOf (seedsOf r).1 = U at hut e3 hu0 hu30 hfl
  generalize hS : (seedsOf r).2 = S at e2 e3
  generalize hN : (seedsOf r).1 = n at e1 e2 e3 hn
  have hS6 : S.length ≤ 6 := by
    rw [← hS]
    match r, hr4 with
    | 0, _ => decide
    | 1, _ => decide
    | 2, _ => decide
    | 3, _ => decide
  have l1 : lenO [.ref 0] [AO.list (avN U)] = some (.int (U.length : Nat), [AO.list (avN U)]) := by
    have := lenO_list (σ := [AO.list (avN U)]) (id := 0) (l := avN U) rfl (by rw [List.length_map]; (first | lia | omega))
    rwa [List.length_map] at this
  have m1 := modO_nat (a := f) (b := U.length) (σ := [AO.list (avN U)]) (by (first | lia | omega))
  have g1 := getO_list (σ := [AO.list (avN U)]) (id := 0) (xs := avN U) (i := f % U.length) (a := .int (t : Nat)) rfl (by rw [List.length_map]; (first | lia | omega)) (by rw [List.getElem?_map, hut]; rfl)
  have e4 : law_chosen_s4 [some (.int (k : Nat)), some (.int (f : Nat)), some (.int (h : Nat)), some (.int (n : Nat)), some (.tup (avN S)), some (.ref 0), none] [.list (avN U)] =
      some (.next, [some (.int (k : Nat)), some (.int (f : Nat)), some (.int (h : Nat)), some (.int (n : Nat)), some (.tup (avN S)), some (.ref 0), some (.int (t : Nat))], [.list (avN U)]) :=
    asg_at (bin_at rfl (bin_at rfl (call_at (cons1_at rfl) l1) m1) g1)
  have c5 := compE_tupM (N := 65536) (cap := [none, some 6, some 2, some 3]) (ρ := [some (.int (k : Nat)), some (.int (f : Nat)), some (.int (h : Nat)), some (.int (n : Nat)), some (.tup (avN S)), some (.ref 0), some (.int (t : Nat))]) (σ := [AO.list (avN U)]) (fun (s : Nat) => AV.int (s : Int)) (fun s => AV.int (((t * s + h) % n : Nat) : Int)) (l := S) (f := varE 4)
    (cs := [some (.int (t : Nat)), some (.int (h : Nat)), some (.int (n : Nat))]) (ef := binE modO (binE addO (binE mulO (varE 1) (varE 0)) (varE 2)) (varE 3)) rfl (by (first | lia | omega)) rfl fun s _ =>
      bin_at (bin_at (bin_at rfl rfl (mulO_nat (by (first | lia | omega)))) rfl rfl) rfl (modO_nat (a := t * s + h) (by (first | lia | omega)))
  have hl : (S.map fun s => AV.int (((t * s + h) % n : Nat) : Int)) = avN (movedL n (timesL n t S) h) := by
    unfold avN movedL timesL
    rw [List.map_map, List.map_map]
    apply List.map_congr_left
    intro s _
    show AV.int _ = AV.int (((t * s % n + h) % n : Nat) : Int)
    rw [Nat.mod_add_mod]
  rw [hl] at c5
  have e : op_law_chosen_3 [.int (k : Nat), .int (f : Nat), .int (h : Nat)] [] = some (.tup [.int (n : Nat), .ref 1], [.list (avN U), .list (avN (movedL n (timesL n t S) h))]) := by
    unfold op_law_chosen_3
    rw [plain_eq (show ([AV.int (k : Nat), AV.int (f : Nat), AV.int (h : Nat)]).length = 3 from rfl)]
    refine callF_of (ρ := [some (.int (k : Nat)), some (.int (f : Nat)), some (.int (h : Nat)), none, none, none, none]) rfl (ρ' := [some (.int (k : Nat)), some (.int (f : Nat)), some (.int (h : Nat)), some (.int (n : Nat)), some (.tup (avN S)), some (.ref 0), some (.int (t : Nat))]) ?_
    unfold law_chosen_F
    rw [seq_next e1, seq_next e2, seq_next e3, seq_next e4]
    exact seq_ret (ret_at (tup_at (cons_at rfl (cons1_at c5)) (by show 2 ≤ 65536; (first | lia | omega))))
  exact frame0 rfl e (adopt_int_list (by show 0 ≤ 1; (first | lia | omega)) rfl (nrs_avN _))
end Mine
end
section
set_option maxRecDepth 100000
namespace Mine
theorem cutL_map {α β : Type} (f : α → β) (xs : List α) (lo hi : Option Int) : cutL (xs.map f) lo hi = (cutL xs lo hi).map f := by
  unfold cutL
  rw [List.length_map, List.map_take, List.map_drop]
theorem drawn_s1 {ns : List Int} (hn : ns.length ≤ 63) {ρ : Fm} (hρ : ρ.length = 16) : ∃ S d, law_s1 (some (.blist (ns.map .int)) :: none :: ρ) [] = some (.next, some (.blist (ns.map .int)) :: some (.ref 1) :: ρ, [S, .list (avN d)]) ∧ d.length ≤ 4 ∧ ∀ x ∈ d, x < 1000000 := by
  have hc : cutE (varE 0) noPart (intPart (valE (.int 4))) (some (.blist (ns.map .int)) :: none :: ρ) [] = some (.ref 0, [.list ((cutL ns none (some 4)).map .int)]) := by
    have h1 : cutO (.blist (ns.map .int)) none (some 4) [] = some (.ref 0, [.list ((cutL ns none (some 4)).map .int)]) := by
      unfold cutO
      dsimp only
      rw [if_pos (by rw [List.length_map]; (first | lia | omega)), cutL_map]
      rfl
    simp only [cutE, noPart, intPart, varE, valE, Fm.get, List.getD_cons_zero, Option.map_some, Option.bind_some, h1]
  have hl : (cutL ns none (some 4)).length ≤ 4 := by
    unfold cutL
    rw [List.length_take]
    exact Nat.le_trans (Nat.min_le_left ..) (Nat.le_trans (Nat.sub_le ..) (by show clipAt ns.length ((4 : Nat) : Int) ≤ 4; rw [clip_nat]; exact Nat.min_le_left ..))
  generalize cutL ns none (some 4) = ms at hc hl
  refine ⟨.list (ms.map .int), ms.map fun i => (i.fmod 1000000).toNat, ?_, by simpa using hl, fun x hx => ?_⟩
  · have hy : Yields false (fun s => s = [AO.list (ms.map .int)]) (.list 0 0) ((ms.map AV.int).drop 0) := yields_list (fun s hs => by rw [hs]; rfl) _ 0 (Nat.add_zero _)
    rw [List.drop_zero] at hy
    have hcm := comp_pure (tt := false) (tf := nameA 0) (ts := trueT) (ef := binE modO (callE intO (consEs (varE 0) nilEs)) (binE powO (valE (.int 10)) (valE (.int 6)))) (σ := [AO.list (ms.map .int)]) (fun ρ => ∃ x, ρ = [x])
      (fun a => match a with | .int i => some (.int (i.fmod 1000000)) | _ => none) _ _ 65536 [none] hy (by simp; (first | lia | omega)) ⟨_, rfl⟩ (by
        rintro a ha ρ ⟨x, rfl⟩
        obtain ⟨i, _, rfl⟩ := List.mem_map.mp ha
        exact ⟨[some (.int i)], ⟨_, rfl⟩, rfl, .inl ⟨_, rfl, rfl, rfl⟩⟩)
    have hf : (ms.map AV.int).filterMap (fun a => match a with | .int i => some (AV.int (i.fmod 1000000)) | _ => none) = avN (ms.map fun i => (i.fmod 1000000).toNat) := by
      clear hcm hy hl hc
      induction ms with
      | nil => rfl
      | cons i ms ih =>
        show AV.int (i.fmod 1000000) :: List.filterMap _ (ms.map AV.int) = AV.int ((i.fmod 1000000).toNat : Nat) :: avN (ms.map _)
        rw [ih]
        congr 2
        have : 0 ≤ i.fmod 1000000 := Int.fmod_nonneg_of_pos i (by (first | lia | omega))
        (first | lia | omega)
    rw [hf] at hcm
    have hE : compE false 65536 [none] (seqI (cutE (varE 0) noPart (intPart (valE (.int 4))))) (nameA 0) trueT (binE modO (callE intO (consEs (varE 0) nilEs)) (binE powO (valE (.int 10)) (valE (.int 6)))) (some (.blist (ns.map .int)) :: none :: ρ) [] =
        some (.ref 1, [.list (ms.map .int), .list (avN (ms.map fun i => (i.fmod 1000000).toNat))]) := by
      have hi : seqI (cutE (varE 0) noPart (intPart (valE (.int 4)))) (some (.blist (ns.map .int)) :: none :: ρ) [] = some (.list 0 0, [.list (ms.map .int)]) := by
        unfold seqI
        rw [hc, Option.bind_some]
        rfl
      unfold compE
      rw [hi, Option.bind_some]
      show (compGo false _ _ _ 65536 (.list 0 0) [none] [.list (ms.map .int)]).bind _ = _
      rw [hcm]
      rfl
    unfold law_s1 asgS
    rw [hE]
    rfl
  · obtain ⟨i, _, rfl⟩ := List.mem_map.mp hx
    have h1 : 0 ≤ i.fmod 1000000 := Int.fmod_nonneg_of_pos i (by (first | lia | omega))
    have h2 : i.fmod 1000000 < 1000000 := Int.fmod_lt_of_pos i (by (first | lia | omega))
    (first | lia | omega)
noncomputable def dfl1 : List Nat := [0, 4, 5, 1]
theorem cells_s2 {S : AO} {d : List Nat} {x : Option AV} {ρ : Fm} (hd : d.length ≤ 4) : law_s2 (x :: some (.ref 1) :: none :: ρ) [S, .list (avN d)] =
    some (.next, x :: some (.ref 1) :: some (.ref 4) :: ρ, [S, .list (avN d), .list (avN dfl1), .list (avN (dfl1.drop d.length)), .list (avN (d ++ dfl1.drop d.length))]) := by
  have l1 : lenO [.ref 1] [S, .list (avN d), .list (avN dfl1)] = some (.int (d.length : Nat), [S, .list (avN d), .list (avN dfl1)]) := by
    have := lenO_list (σ := [S, .list (avN d), .list (avN dfl1)]) (id := 1) (l := avN d) rfl (by rw [List.length_map]; exact Nat.le_trans hd (by decide))
    rwa [List.length_map] at this
  have n1 : lstE (consEs (valE (.int 0)) (consEs (valE (.int 4)) (consEs (valE (.int 5)) (consEs (valE (.int 1)) nilEs)))) (x :: some (.ref 1) :: none :: ρ) [S, .list (avN d)] = some (.ref 2, [S, .list (avN d), .list (avN dfl1)]) := rfl
  have c1 : cutO (.ref 2) (some (d.length : Nat)) none [S, .list (avN d), .list (avN dfl1)] = some (.ref 3, [S, .list (avN d), .list (avN dfl1), .list (avN (dfl1.drop d.length))]) := by
    have e : cutL dfl1 (some (d.length : Nat)) none = dfl1.drop d.length := by
      unfold cutL
      rw [Option.elim_some, Option.elim_none, clip_nat, Nat.min_eq_left (show d.length ≤ dfl1.length from hd), List.take_of_length_le (Nat.le_of_eq (List.length_drop ..))]
    show some (AV.ref 3, [S, .list (avN d), .list (avN dfl1), AO.list (cutL (avN dfl1) (some (d.length : Nat)) none)]) = _
    unfold avN
    rw [cutL_map, e]
  have a1 : addO (.ref 1) (.ref 3) [S, .list (avN d), .list (avN dfl1), .list (avN (dfl1.drop d.length))] = some (.ref 4, [S, .list (avN d), .list (avN dfl1), .list (avN (dfl1.drop d.length)), .list (avN (d ++ dfl1.drop d.length))]) := by
    show newL (avN d ++ avN (dfl1.drop d.length)) _ = _
    unfold newL
    rw [if_pos (by rw [List.length_append, List.length_map, List.length_map, List.length_drop]; exact Nat.le_trans (Nat.add_le_add hd (Nat.sub_le 4 d.length)) (by decide))]
    unfold avN
    rw [List.map_append]
    rfl
  simp only [law_s2, asgS, binE, cutE, noPart, intPart, n1, callE, consEs, nilEs, varE, Fm.get, Fm.put, List.getD_cons_zero, List.getD_cons_succ, List.set_cons_succ, List.set_cons_zero, Option.map_some, Option.bind_some, l1, c1, a1]
end Mine
end
section
set_option maxRecDepth 100000
namespace Mine
/-! the law's main text -/
theorem cut_bytes {f1 f2 f3 : EF} {ρ : Fm} {σ : St} {a b : Nat} {l : List Nat} (h1 : f1 ρ σ = some (.bytes l, σ)) (h2 : f2 ρ σ = some (.int (a : Nat), σ)) (h3 : f3 ρ σ = some (.int (b : Nat), σ)) (hl : l.length ≤ 65536) (hab : a ≤ b) (hb : b ≤ l.length) :
    cutE f1 (intPart f2) (intPart f3) ρ σ = some (.bytes ((l.drop a).take (b - a)), σ) := by
  have hc : cutL l (some (a : Nat)) (some (b : Nat)) = (l.drop a).take (b - a) := by
    unfold cutL
    rw [Option.elim_some, Option.elim_some, clip_nat, clip_nat, Nat.min_eq_left (Nat.le_trans hab hb), Nat.min_eq_left hb]
  have hI : intPart f2 ρ σ = some (some ((a : Nat) : Int), σ) := by
    unfold intPart
    rw [h2]
    rfl
  have hJ : intPart f3 ρ σ = some (some ((b : Nat) : Int), σ) := by
    unfold intPart
    rw [h3]
    rfl
  unfold cutE
  rw [h1, Option.bind_some]
  dsimp only
  rw [hI, Option.bind_some]
  dsimp only
  rw [hJ, Option.bind_some]
  dsimp only
  unfold cutO
  dsimp only
  rw [if_pos hl, hc]
theorem flat_row {w : Nat} {rows : List (List Nat)} (h : ∀ r ∈ rows, r.length = w) {a : Nat} {row : List Nat} (ha : rows[a]? = some row) : (rows.flatten.drop (a * w)).take w = row := by
  have hw : row.length = w := h row (List.mem_of_getElem? ha)
  apply List.ext_getElem?
  intro i
  rw [List.getElem?_take]
  by_cases hi : i < w
  · rw [if_pos hi, List.getElem?_drop, flatten_get h ha hi]
  · rw [if_neg hi, List.getElem?_eq_none (by (first | lia | omega))]
structure Base (n : Nat) (D : List Nat) (σ : St) : Prop where
  hd : σ[5]? = some (.list (avN D))
  hL : σ[6]? = some (.list (refsFrom 7 n))
  hr : ∀ t, t < n → σ[7 + t]? = some (.list (avN (lineN n D t)))
theorem Base.old {n : Nat} {D : List Nat} {σ τ : St} (B : Base n D σ) : Base n D (σ ++ τ) := ⟨get_old B.hd, get_old B.hL, fun t ht => get_old (B.hr t ht)⟩
theorem Base.set {n : Nat} {D : List Nat} {σ : St} (B : Base n D σ) {i : Nat} {o : AO} (hi : 7 + n ≤ i) : Base n D (σ.set i o) :=
  ⟨by rw [set_get_ne (by (first | lia | omega))]; exact B.hd, by rw [set_get_ne (by (first | lia | omega))]; exact B.hL, fun t ht => by rw [set_get_ne (by (first | lia | omega))]; exact B.hr t ht⟩
theorem refs_get {a n i : Nat} (h : i < n) : (refsFrom a n)[i]? = some (.ref (a + i)) := by
  unfold refsFrom
  rw [List.getElem?_map, List.getElem?_range h]
  rfl
theorem refs_len {a n : Nat} : (refsFrom a n).length = n := by unfold refsFrom; rw [List.length_map, List.length_range]
theorem refs_eq {a n : Nat} : refsFrom a n = ((List.range n).map fun i => a + i).map .ref := by unfold refsFrom; rw [List.map_map]; rfl
theorem refs_nodup {a n : Nat} : ((List.range n).map fun i => a + i).Nodup := by
  have := List.nodup_range (n := n)
  unfold List.Nodup at this ⊢
  rw [List.pairwise_map]
  exact this.imp fun hab he => hab (by (first | lia | omega))
section
variable {x0 x1 x2 x3 x4 x5 x6 : Option AV} {ρ : Fm}
theorem main_s3 {A0 A1 A2 A3 : AO} {c0 c1 c2 c3 : Nat} : ∃ n D, Arc n D ∧ law_s3 (x0 :: x1 :: some (.ref 4) :: x3 :: x4 :: ρ) [A0, A1, A2, A3, .list (avN [c0, c1, c2, c3])] =
    some (.next, x0 :: x1 :: some (.ref 4) :: some (.int (n : Nat)) :: some (.ref 5) :: ρ, [A0, A1, A2, A3, .list (avN [c0, c1, c2, c3]), .list (avN D)]) := by
  obtain ⟨r, t, hr, ht, e⟩ := chosen_f c0 c1 c2 [A0, A1, A2, A3, .list (avN [c0, c1, c2, c3])]
  exact ⟨_, _, arc_case (h := c2) hr ht, asgA_at (call_at (cons_at (bin_at rfl rfl rfl) (cons_at (bin_at rfl rfl rfl) (cons1_at (bin_at rfl rfl rfl)))) e) rfl⟩
variable {n : Nat} {D : List Nat} {σ : St}
theorem main_s4 (h : Dat n D) (hd : σ[5]? = some (.list (avN D))) : law_s4 (x0 :: x1 :: x2 :: x3 :: some (.ref 5) :: x5 :: ρ) σ = some (.next, x0 :: x1 :: x2 :: x3 :: some (.ref 5) :: some (.int (D.length : Nat)) :: ρ, σ) := by
  have l1 : lenO [.ref 5] σ = some (.int (D.length : Nat), σ) := by
    have := lenO_list hd (by rw [List.length_map]; have := h.l6; (first | lia | omega))
    rwa [List.length_map] at this
  exact asg_at (call_at (cons1_at rfl) l1)
theorem main_s5 (h : Dat n D) {A0 A1 A2 A3 A4 : AO} : ∃ σ', law_s5 (x0 :: x1 :: x2 :: some (.int (n : Nat)) :: some (.ref 5) :: x5 :: x6 :: ρ) [A0, A1, A2, A3, A4, .list (avN D)] =
    some (.next, x0 :: x1 :: x2 :: some (.int (n : Nat)) :: some (.ref 5) :: x5 :: some (.ref 6) :: ρ, [A0, A1, A2, A3, A4, .list (avN D)] ++ σ') ∧ Base n D ([A0, A1, A2, A3, A4, .list (avN D)] ++ σ') ∧ σ'.length = n + 1 := by
  have e := lines_f h (σ := [A0, A1, A2, A3, A4, .list (avN D)]) (d := 5) rfl
  refine ⟨_, asg_at (call_at (cons_at rfl (cons1_at rfl)) e), ⟨rfl, rfl, fun t ht => ?_⟩, by simp⟩
  rw [List.getElem?_append_right (by show 6 ≤ _; (first | lia | omega)), show 7 + t - [A0, A1, A2, A3, A4, AO.list (avN D)].length = t + 1 by show 7 + t - 6 = _; (first | lia | omega), List.getElem?_cons_succ, List.getElem?_map, List.getElem?_range ht]
  rfl
theorem main_s6 (h : Dat n D) (B : Base n D σ) {x7 : Option AV} : law_s6 (x0 :: x1 :: x2 :: some (.int (n : Nat)) :: x4 :: some (.int (D.length : Nat)) :: some (.ref 6) :: x7 :: ρ) σ =
    some (.next, x0 :: x1 :: x2 :: some (.int (n : Nat)) :: x4 :: some (.int (D.length : Nat)) :: some (.ref 6) :: some (.bytes ((List.range D.length).flatMap fun t => maskL n (liesL n D t))) :: ρ, σ ++ [.list ((refsFrom 7 n).take D.length)]) := by
  have hn := h.size.le
  have h6 := h.l6
  have c1 := cut_head (f1 := varE 6) (f2 := varE 5) (ρ := x0 :: x1 :: x2 :: some (.int (n : Nat)) :: x4 :: some (.int (D.length : Nat)) :: some (.ref 6) :: x7 :: ρ) rfl rfl B.hL (by rw [refs_len]; (first | lia | omega))
  have hk : (refsFrom 7 n).take D.length = ((List.range D.length).map fun t => 7 + t).map .ref := by
    rw [refs_eq, ← List.map_take, ← List.map_take, List.take_range, Nat.min_eq_left (by (first | lia | omega))]
  have m1 := marks_f (n := n) (by (first | lia | omega)) (s := σ.length) (ks := (List.range D.length).map fun t => 7 + t) (c := fun k => lineN n D (k - 7)) (σ := σ ++ [.list ((refsFrom 7 n).take D.length)]) (by rw [get_new, hk]) (List.nodup_cons.mpr ⟨fun hm => by
      obtain ⟨t, ht, e⟩ := List.mem_map.mp hm
      have := get_lt (B.hr t (by have := List.mem_range.mp ht; (first | lia | omega)))
      (first | lia | omega), refs_nodup⟩) (fun k hk => by
      obtain ⟨t, ht, rfl⟩ := List.mem_map.mp hk
      have ht := List.mem_range.mp ht
      rw [show 7 + t - 7 = t by (first | lia | omega)]
      refine ⟨get_old (B.hr t (by (first | lia | omega))), ?_, fun p hp => (mem_lineN.mp hp).1⟩
      have : (lineN n D t).length ≤ (List.range n).length := List.length_filter_le ..
      rw [List.length_range] at this
      (first | lia | omega)) (by rw [List.length_map, List.length_range]; (first | lia | omega))
  have hf : (((List.range D.length).map fun t => 7 + t).flatMap fun k => maskL n (lineN n D (k - 7))) = ((List.range D.length).map fun t => maskL n (lineN n D t)).flatten := by
    rw [List.flatMap_map, List.flatMap_def]
    congr 1
    apply List.map_congr_left
    intro t _
    rw [show 7 + t - 7 = t by (first | lia | omega)]
  rw [hf] at m1
  have s1 := swap_f (w := n) (rows := (List.range D.length).map fun t => maskL n (lineN n D t)) (by (first | lia | omega)) (by (first | lia | omega)) (fun r hr => by
      obtain ⟨t, _, rfl⟩ := List.mem_map.mp hr
      exact maskL_length ..) (fun r hr x hx => by
      obtain ⟨t, _, rfl⟩ := List.mem_map.mp hr
      unfold maskL at hx
      obtain ⟨y, _, rfl⟩ := List.mem_map.mp hx
      split <;> (first | lia | omega)) (by
      rw [List.length_map, List.length_range]
      have : D.length * n ≤ 6 * 31 := Nat.mul_le_mul h6 hn.2
      (first | lia | omega)) (σ ++ [.list ((refsFrom 7 n).take D.length)])
  have hg : (((List.range D.length).map fun t => maskL n (lineN n D t)).map List.reverse).flatten = (List.range D.length).flatMap fun t => maskL n (liesL n D t) := by
    rw [List.map_map, List.flatMap_def]
    congr 1
    apply List.map_congr_left
    intro t ht
    exact row_back h (by have := List.mem_range.mp ht; (first | lia | omega))
  rw [hg] at s1
  exact asg_at (call_at (cons_at (call_at (cons_at rfl (cons1_at c1)) m1) (cons1_at rfl)) s1)
theorem neO_bytes {b : List Nat} : neO (.bytes b) (.bytes b) σ = some (.bool false, σ) := by
  show some (AV.bool (b != b), σ) = _
  rw [bne_self_eq_false]
theorem main_if1 (h : Dat n D) (hd : σ[5]? = some (.list (avN D))) : ifS (orT (notT (valT (callE isbO (consEs (varE 7) (consEs (valE (.con (.type "bytes"))) nilEs))))) (cmpT neO (varE 7) (callE op_law_backs_f (consEs (varE 3) (consEs (varE 4) nilEs))))) (seqS law_s7 skipS) skipS
      (x0 :: x1 :: x2 :: some (.int (n : Nat)) :: some (.ref 5) :: x5 :: x6 :: some (.bytes ((List.range D.length).flatMap fun t => maskL n (liesL n D t))) :: ρ) σ =
    some (.next, (x0 :: x1 :: x2 :: some (.int (n : Nat)) :: some (.ref 5) :: x5 :: x6 :: some (.bytes ((List.range D.length).flatMap fun t => maskL n (liesL n D t))) :: ρ), σ) := by
  have b1 := backs_f h hd
  generalize ((List.range D.length).flatMap fun t => maskL n (liesL n D t)) = bs at b1 ⊢
  refine ifS_false (σ1 := σ) ?_ rfl
  have t1 : notT (valT (callE isbO (consEs (varE 7) (consEs (valE (.con (.type "bytes"))) nilEs)))) (x0 :: x1 :: x2 :: some (.int (n : Nat)) :: some (.ref 5) :: x5 :: x6 :: some (.bytes bs) :: ρ) σ = some (false, σ) := by
    have i1 : isbO [.bytes bs, .con (.type "bytes")] σ = some (.bool true, σ) := by
      unfold isbO
      dsimp only
      rw [if_pos rfl]
    have e1 : callE isbO (consEs (varE 7) (consEs (valE (.con (.type "bytes"))) nilEs)) (x0 :: x1 :: x2 :: some (.int (n : Nat)) :: some (.ref 5) :: x5 :: x6 :: some (.bytes bs) :: ρ) σ = some (.bool true, σ) := call_at (cons_at rfl (cons1_at rfl)) i1
    unfold notT valT
    rw [e1]
    rfl
  unfold orT
  rw [t1, Option.bind_some]
  dsimp only
  rw [if_neg (by decide)]
  exact cmp_at rfl (call_at (cons_at rfl (cons1_at rfl)) b1) neO_bytes
end
end Mine
end
section
set_option maxRecDepth 100000
namespace Mine
section
variable {x0 x1 x2 x3 x4 x5 x6 x7 x8 x9 x10 x11 x12 : Option AV} {ρ : Fm} {n : Nat} {D : List Nat} {σ : St} {T : Nat}
theorem main_s8 (h : Dat n D) {c0 c1 c2 c3 : Nat} (h4 : σ[4]? = some (.list (avN [c0, c1, c2, c3]))) : law_s8 (x0 :: x1 :: some (.ref 4) :: x3 :: x4 :: some (.int (D.length : Nat)) :: x6 :: x7 :: x8 :: ρ) σ =
    some (.next, x0 :: x1 :: some (.ref 4) :: x3 :: x4 :: some (.int (D.length : Nat)) :: x6 :: x7 :: some (.int ((c3 % D.length : Nat) : Int)) :: ρ, σ) := by
  have g1 := getO_list (i := 3) (a := .int (c3 : Nat)) h4 (by show 4 ≤ 65000; (first | lia | omega)) rfl
  exact asg_at (bin_at (bin_at rfl rfl g1) rfl (modO_nat (by have := h.l3; (first | lia | omega))))
theorem main_s9 (h : Dat n D) (hT : T < D.length) : law_s9 (x0 :: x1 :: x2 :: some (.int (n : Nat)) :: x4 :: x5 :: x6 :: some (.bytes ((List.range D.length).flatMap fun t => maskL n (liesL n D t))) :: some (.int (T : Nat)) :: x9 :: ρ) σ =
    some (.next, x0 :: x1 :: x2 :: some (.int (n : Nat)) :: x4 :: x5 :: x6 :: some (.bytes ((List.range D.length).flatMap fun t => maskL n (liesL n D t))) :: some (.int (T : Nat)) :: some (.bytes (maskL n (liesL n D T))) :: ρ, σ) := by
  have hn := h.size.le
  have h6 := h.l6
  have hr : ∀ r ∈ (List.range D.length).map fun t => maskL n (liesL n D t), r.length = n := fun r hr => by
    obtain ⟨t, _, rfl⟩ := List.mem_map.mp hr
    exact maskL_length ..
  have hl := flat_len hr
  rw [List.length_map, List.length_range] at hl
  have hm : D.length * n ≤ 6 * 31 := Nat.mul_le_mul h6 hn.2
  have hTn : T * n + n ≤ D.length * n := by
    have := Nat.mul_le_mul_right n (show T + 1 ≤ D.length by omega)
    rwa [Nat.add_mul, Nat.one_mul] at this
  have hrow := flat_row hr (a := T) (row := maskL n (liesL n D T)) (by rw [List.getElem?_map, List.getElem?_range hT]; rfl)
  rw [← List.flatMap_def] at hl hrow
  have m1 := mulO_nat (σ := σ) (a := T) (b := n) (by omega)
  have c1 := cut_bytes (f1 := varE 7) (f2 := binE mulO (varE 8) (varE 3)) (f3 := binE addO (binE mulO (varE 8) (varE 3)) (varE 3)) (a := T * n) (b := T * n + n) (σ := σ) (l := (List.range D.length).flatMap fun t => maskL n (liesL n D t))
    (ρ := x0 :: x1 :: x2 :: some (.int (n : Nat)) :: x4 :: x5 :: x6 :: some (.bytes ((List.range D.length).flatMap fun t => maskL n (liesL n D t))) :: some (.int (T : Nat)) :: x9 :: ρ) rfl (bin_at rfl rfl m1) (bin_at (bin_at rfl rfl m1) rfl rfl) (by omega) (by omega) (by omega)
  rw [Nat.add_sub_cancel_left, hrow] at c1
  exact asg_at c1
noncomputable abbrev commR (n : Nat) (D : List Nat) (T m : Nat) : St := (List.range m).map fun t => AO.list (avN (shareL n D T t))
theorem getO_mask {l : List Nat} {x : Nat} (hn : n ≤ 60) (hx : x < n) : getO (.bytes (maskL n l)) (.int (x : Nat)) σ = some (.int ((if l.contains x = true then 1 else 0 : Nat) : Int), σ) := by
  have hl := maskL_length n l
  unfold getO
  dsimp only
  rw [if_pos ⟨by (first | lia | omega), by (first | lia | omega), by (first | lia | omega)⟩, Int.toNat_natCast, List.getD_eq_getElem?_getD]
  unfold maskL
  rw [List.getElem?_map, List.getElem?_range hx]
  rfl
theorem comm_row (h : Dat n D) (B : Base n D σ) {t : Nat} (ht : t < n) :
    compE false 65536 [none, some 1] (seqI (varE 0)) (nameA 0) (cmpT eqO (binE getO (varE 1) (varE 0)) (valE (.int 1))) (varE 0) [some (.ref (7 + t)), some (.bytes (maskL n (liesL n D T)))] σ = some (.ref σ.length, σ ++ [.list (avN (shareL n D T t))]) := by
  have hn := h.size.le
  exact compE_seq (N := 65536) (cap := [none, some 1]) (ρ := [some (.ref (7 + t)), some (.bytes (maskL n (liesL n D T)))]) (cs := [some (.bytes (maskL n (liesL n D T)))]) (fun (p : Nat) => AV.int (p : Int)) (fun (p : Nat) => AV.int (p : Int)) (fun x => (liesL n D T).contains x) (l := lineN n D t) (f := varE 0) (ef := varE 0) rfl (B.hr t ht) (by
      have : (lineN n D t).length ≤ (List.range n).length := List.length_filter_le ..
      rw [List.length_range] at this
      (first | lia | omega)) rfl fun x hx => ⟨by
      have hxn := (mem_lineN.mp hx).1
      refine cmp_at (bin_at rfl rfl (getO_mask (by (first | lia | omega)) hxn)) rfl ((eqO_int (b := 1)).trans ?_)
      congr 3
      cases (liesL n D T).contains x <;> rfl, fun _ => rfl⟩
theorem main_s10 (h : Dat n D) (B : Base n D σ) : law_s10 (x0 :: x1 :: x2 :: x3 :: x4 :: x5 :: some (.ref 6) :: x7 :: x8 :: some (.bytes (maskL n (liesL n D T))) :: x10 :: ρ) σ =
    some (.next, x0 :: x1 :: x2 :: x3 :: x4 :: x5 :: some (.ref 6) :: x7 :: x8 :: some (.bytes (maskL n (liesL n D T))) :: some (.ref (σ.length + n)) :: ρ, (σ ++ commR n D T n) ++ [.list (refsFrom σ.length n)]) := by
  have hn := h.size.le
  obtain ⟨out, s, e, ho, hs⟩ := comp_in (N := 65536) (cap := [none, some 9]) (ρ := x0 :: x1 :: x2 :: x3 :: x4 :: x5 :: some (.ref 6) :: x7 :: x8 :: some (.bytes (maskL n (liesL n D T))) :: x10 :: ρ) (cs := [some (.bytes (maskL n (liesL n D T)))])
    (ef := compE false 65536 [none, some 1] (seqI (varE 0)) (nameA 0) (cmpT eqO (binE getO (varE 1) (varE 0)) (valE (.int 1))) (varE 0)) (f := varE 6) (id := 6) (l := List.range n) (fun i => AV.ref (7 + i)) (σ := σ) (σ0 := σ)
    (fun done out s => out = refsFrom σ.length done.length ∧ s = σ ++ commR n D T done.length) rfl (by rw [List.length_range]; (first | lia | omega)) rfl (fun done out s ⟨_, hs⟩ => by subst hs; exact B.old.hL) ⟨rfl, (List.append_nil _).symm⟩
    (fun done t rest hd out s ⟨ho, hs⟩ => by
      obtain ⟨ht, _, htn⟩ := range_split hd
      subst hs
      refine ⟨_, _, comm_row h B.old htn, ?_, ?_⟩
      · rw [ho, List.length_append, List.length_append, List.length_map, List.length_range]
        show _ = refsFrom _ (done.length + 1)
        unfold refsFrom
        rw [List.range_succ, List.map_append]
        rfl
      · rw [List.append_assoc, List.length_append]
        show _ = σ ++ commR n D T (done.length + 1)
        unfold commR
        rw [List.range_succ, List.map_append, ht]
        rfl)
  rw [List.length_range] at ho hs
  subst hs
  rw [ho, List.length_append, List.length_map, List.length_range] at e
  exact asg_at e
theorem eqL_rows {d a b n : Nat} {c : Nat → List Nat} (hab : ∀ i, i < n → σ[a + i]? = some (.list (avN (c i))) ∧ σ[b + i]? = some (.list (avN (c i)))) : ∀ l : List Nat, (∀ i ∈ l, i < n) → eqL (d + 1) σ (l.map fun i => .ref (a + i)) (l.map fun i => .ref (b + i)) = some true
  | [], _ => rfl
  | i :: l, h => by
    have ih := eqL_rows (d := d) hab l fun j hj => h j (List.mem_cons_of_mem _ hj)
    obtain ⟨h1, h2⟩ := hab i (h i (List.mem_cons_self ..))
    have e : eqV (d + 1) σ (.ref (a + i)) (.ref (b + i)) = some true := by
      show (if a + i = b + i then some true else match σ[a + i]?, σ[b + i]? with | some (.list xs), some (.list ys) => if xs.length = ys.length then eqLs (eqV d σ) xs ys else some false | _, _ => none) = _
      rw [h1, h2]
      dsimp only
      rw [if_pos rfl]
      have := eqL_avN d σ (c i)
      unfold eqL at this
      rw [this]
      split <;> rfl
    unfold eqL at ih ⊢
    show (match eqV (d + 1) σ (.ref (a + i)) (.ref (b + i)), eqLs (eqV (d + 1) σ) (l.map fun i => .ref (a + i)) (l.map fun i => .ref (b + i)) with | some b, some c => some (b && c) | _, _ => none) = _
    rw [e, ih]
    rfl
theorem sameL_rows {i j a b n : Nat} {c : Nat → List Nat} (h1 : σ[i]? = some (.list (refsFrom a n))) (h2 : σ[j]? = some (.list (refsFrom b n))) (hab : ∀ i, i < n → σ[a + i]? = some (.list (avN (c i))) ∧ σ[b + i]? = some (.list (avN (c i)))) : sameL σ i j = some true := by
  unfold sameL
  rw [h1, h2]
  dsimp only
  rw [if_pos (by rw [refs_len, refs_len])]
  exact eqL_rows hab _ fun i hi => List.mem_range.mp hi
structure Comm (n : Nat) (D : List Nat) (T a : Nat) (σ : St) : Prop where
  hc : σ[a + n]? = some (.list (refsFrom a n))
  hr : ∀ t, t < n → σ[a + t]? = some (.list (avN (shareL n D T t)))
theorem Comm.old {τ : St} {a : Nat} (B : Comm n D T a σ) : Comm n D T a (σ ++ τ) := ⟨get_old B.hc, fun t ht => get_old (B.hr t ht)⟩
theorem comm_made : Comm n D T σ.length ((σ ++ commR n D T n) ++ [.list (refsFrom σ.length n)]) := by
  refine ⟨?_, fun t ht => get_old ?_⟩
  · rw [List.getElem?_append_right (by simp)]
    simp
  · rw [List.getElem?_append_right (by (first | lia | omega)), Nat.add_sub_cancel_left]
    unfold commR
    rw [List.getElem?_map, List.getElem?_range ht]
    rfl
theorem main_if2 (h : Dat n D) (hd : σ[5]? = some (.list (avN D))) {a : Nat} (C : Comm n D T a σ) (hT : T < n) : ∃ τ, ifS (cmpT neO (varE 10) (callE op_law_common_f (consEs (varE 3) (consEs (varE 4) (consEs (varE 8) nilEs))))) (seqS law_s11 skipS) skipS
      (x0 :: x1 :: x2 :: some (.int (n : Nat)) :: some (.ref 5) :: x5 :: x6 :: x7 :: some (.int (T : Nat)) :: x9 :: some (.ref (a + n)) :: ρ) σ =
    some (.next, x0 :: x1 :: x2 :: some (.int (n : Nat)) :: some (.ref 5) :: x5 :: x6 :: x7 :: some (.int (T : Nat)) :: x9 :: some (.ref (a + n)) :: ρ, σ ++ τ) := by
  have e := common_f h hT hd
  have hm : ((List.range n).map fun i => AO.list (avN (sortN (commC n D T i D)))) = commR n D T n := by
    apply List.map_congr_left
    intro i hi
    rw [common_eq h hT (List.mem_range.mp hi)]
  rw [hm] at e
  refine ⟨_, ifS_false (cmp_at rfl (call_at (cons_at rfl (cons_at rfl (cons1_at rfl))) e) (neO_same (sameL_rows (a := a) (b := σ.length + 1) (n := n) (c := shareL n D T) (get_old C.hc) ?_ fun i hi => ⟨get_old (C.hr i hi), ?_⟩))) rfl⟩
  · rw [List.getElem?_append_right (Nat.le_refl _), Nat.sub_self]
    rfl
  · rw [List.getElem?_append_right (by (first | lia | omega)), show σ.length + 1 + i - σ.length = i + 1 by (first | lia | omega), List.getElem?_cons_succ]
    unfold commR
    rw [List.getElem?_map, List.getElem?_range hi]
    rfl
theorem main_s12 (h : Dat n D) {a : Nat} (C : Comm n D T a σ) : law_s12 (x0 :: x1 :: x2 :: x3 :: x4 :: x5 :: x6 :: x7 :: x8 :: x9 :: some (.ref (a + n)) :: x11 :: ρ) σ =
    some (.next, x0 :: x1 :: x2 :: x3 :: x4 :: x5 :: x6 :: x7 :: x8 :: x9 :: some (.ref (a + n)) :: some (.ref σ.length) :: ρ, σ ++ [.list (avN (touchL n D T))]) := by
  have hn := h.size.le
  have hz : (List.range n).zipIdx = (List.range n).map fun x => (x, x) := by
    have := zip_range (fun x => x) n
    rwa [List.map_id'] at this
  have c1 := compE_enum (N := 65536) (cap := [none, none]) (ρ := x0 :: x1 :: x2 :: x3 :: x4 :: x5 :: x6 :: x7 :: x8 :: x9 :: some (.ref (a + n)) :: x11 :: ρ) (σ := σ) (cs := []) (ts := cmpT eqO (callE lenO (consEs (varE 1) nilEs)) (valE (.int 1))) (ef := varE 0) (fun i => AV.ref (a + i)) (fun p => AV.int (p.2 : Nat)) (fun p => (shareL n D T p.2).length == 1)
    (fs := consEs (varE 10) nilEs) (id := a + n) (l := List.range n) rfl C.hc (by rw [List.length_range]; omega) rfl fun p hp => by
      rw [hz] at hp
      obtain ⟨t, ht, rfl⟩ := List.mem_map.mp hp
      have ht := List.mem_range.mp ht
      have hle : (shareL n D T t).length ≤ (List.range n).length := Nat.le_trans (List.length_filter_le ..) (List.length_filter_le ..)
      rw [List.length_range] at hle
      have l1 := lenO_list (C.hr t ht) (by rw [List.length_map]; omega)
      rw [List.length_map] at l1
      exact ⟨cmp_at (call_at (cons1_at rfl) l1) rfl (eqO_int (b := 1)), fun _ => rfl⟩
  have hm : ((List.range n).zipIdx.filter fun p => (shareL n D T p.2).length == 1).map (fun p => AV.int (p.2 : Nat)) = avN (touchL n D T) := by
    rw [hz, List.filter_map, List.map_map]
    rfl
  rw [hm] at c1
  exact asg_at c1
theorem main_s13 (h : Pds n D) (hT : T < n) (hd : σ[5]? = some (.list (avN D))) {k : Nat} (hk : σ[k]? = some (.list (avN (touchL n D T)))) (h5 : 5 ≠ k) : law_s13 (x0 :: x1 :: x2 :: some (.int (n : Nat)) :: some (.ref 5) :: x5 :: x6 :: x7 :: x8 :: x9 :: x10 :: some (.ref k) :: x12 :: ρ) σ =
    some (.next, x0 :: x1 :: x2 :: some (.int (n : Nat)) :: some (.ref 5) :: x5 :: x6 :: x7 :: x8 :: x9 :: x10 :: some (.ref k) :: some (.ref σ.length) :: ρ, σ ++ [.list (avN (meetsL n D (touchL n D T) (touchL n D T).length))]) :=
  asg_at (call_at (cons_at rfl (cons_at rfl (cons1_at rfl))) (meets_f h (touch_tch h hT).1 hd hk h5))
end
end Mine
end
section
set_option maxRecDepth 100000
namespace Mine
/-- what stands when the meetings are read off the words -/
structure Sh (n : Nat) (D tch ms : List Nat) (k : Nat) (acc : List Nat) (σ : St) : Prop where
  base : Base n D σ
  ht : σ[k]? = some (.list (avN tch))
  hm : σ[k + 1]? = some (.list (avN ms))
  hs : σ[k + 2]? = some (.list (avN acc))
theorem Sh.old {n : Nat} {D tch ms acc : List Nat} {k : Nat} {σ τ : St} (S : Sh n D tch ms k acc σ) : Sh n D tch ms k acc (σ ++ τ) := ⟨S.base.old, get_old S.ht, get_old S.hm, get_old S.hs⟩
theorem Sh.set {n : Nat} {D tch ms acc acc' : List Nat} {k : Nat} {σ : St} (S : Sh n D tch ms k acc σ) (hk : 7 + n ≤ k) : Sh n D tch ms k acc' (σ.set (k + 2) (.list (avN acc'))) :=
  ⟨S.base.set (by (first | lia | omega)), by rw [set_get_ne (by (first | lia | omega))]; exact S.ht, by rw [set_get_ne (by (first | lia | omega))]; exact S.hm, set_get_eq S.hs⟩
section
variable {x0 x1 x2 x3 x4 x5 x6 x7 x8 x9 x10 x11 x12 x14 x15 x16 : Option AV} {ρ : Fm} {n : Nat} {D tch ms : List Nat} {σ : St} {T k : Nat}
theorem main_s14 {x13 : Option AV} : law_s14 (x0 :: x1 :: x2 :: x3 :: x4 :: x5 :: x6 :: x7 :: x8 :: x9 :: x10 :: x11 :: x12 :: x13 :: ρ) σ = some (.next, x0 :: x1 :: x2 :: x3 :: x4 :: x5 :: x6 :: x7 :: x8 :: x9 :: x10 :: x11 :: x12 :: some (.ref σ.length) :: ρ, σ ++ [.list (avN [])]) :=
  asg_at (lst_at (fs := nilEs) (as := []) rfl (Nat.zero_le _))
noncomputable abbrev fr15 (x0 x1 x2 x3 x4 x5 x7 x8 x9 x10 : Option AV) (k : Nat) (x14 x15 x16 : Option AV) (ρ : Fm) : Fm :=
  x0 :: x1 :: x2 :: x3 :: x4 :: x5 :: some (.ref 6) :: x7 :: x8 :: x9 :: x10 :: some (.ref k) :: some (.ref (k + 1)) :: some (.ref (k + 2)) :: x14 :: x15 :: x16 :: ρ
theorem cross_at (h : Pds n D) (B : Base n D σ) {t e : Nat} (het : e < t) (ht : t < n) :
    compE false 65536 [none, some 6, some 16] (seqI (binE getO (varE 6) (varE 15))) (nameA 0) (cmpT inO (varE 0) (binE getO (varE 1) (varE 2))) (varE 0) (fr15 x0 x1 x2 x3 x4 x5 x7 x8 x9 x10 k x14 (some (.int (t : Nat))) (some (.int (e : Nat))) ρ) σ =
      some (.ref σ.length, σ ++ [.list (avN [(e + oneOf n D (t - e)) % n])]) := by
  have hn := h.size.le
  have g1 := getO_list (i := t) (a := .ref (7 + t)) B.hL (by rw [refs_len]; (first | lia | omega)) (refs_get ht)
  have g2 := getO_list (i := e) (a := .ref (7 + e)) B.hL (by rw [refs_len]; (first | lia | omega)) (refs_get (show e < n by (first | lia | omega)))
  have c := compE_seq (N := 65536) (cap := [none, some 6, some 16]) (ρ := fr15 x0 x1 x2 x3 x4 x5 x7 x8 x9 x10 k x14 (some (.int (t : Nat))) (some (.int (e : Nat))) ρ) (cs := [some (.ref 6), some (.int (e : Nat))]) (fun (p : Nat) => AV.int (p : Int)) (fun (p : Nat) => AV.int (p : Int)) (fun x => (lineN n D e).contains x) (l := lineN n D t)
    (f := binE getO (varE 6) (varE 15)) (ts := cmpT inO (varE 0) (binE getO (varE 1) (varE 2))) (ef := varE 0) (bin_at rfl rfl g1) (B.hr t ht) (by
      have : (lineN n D t).length ≤ (List.range n).length := List.length_filter_le ..
      rw [List.length_range] at this
      (first | lia | omega)) rfl fun x hx => ⟨cmp_at rfl (bin_at rfl rfl g2) (inO_at (B.hr e (by (first | lia | omega)))), fun _ => rfl⟩
  have hc : (lineN n D t).filter (fun x => (lineN n D e).contains x) = _ := cross_eq h het ht
  rw [hc] at c
  exact c
theorem shared_row (h : Pds n D) (K : Tch n tch) (hk : 7 + n ≤ k) {i t : Nat} (hi : tch[i]? = some t) {acc : List Nat} (ha : acc.length ≤ 100) (S : Sh n D tch ms k acc σ) :
    ∃ y16 σ', law_b2 (fr15 x0 x1 x2 x3 x4 x5 x7 x8 x9 x10 k (some (.int (i : Nat))) (some (.int (t : Nat))) x16 ρ) σ =
      some (.next, fr15 x0 x1 x2 x3 x4 x5 x7 x8 x9 x10 k (some (.int (i : Nat))) (some (.int (t : Nat))) y16 ρ, σ') ∧ Sh n D tch ms k (acc ++ meetRow n D t (tch.take i)) σ' := by
  have h6 := K.l6
  have htn : t < n := K.lt t (List.mem_of_getElem? hi)
  have hcut := cut_to (f1 := varE 11) (f2 := varE 14) (k := i) (ρ := fr15 x0 x1 x2 x3 x4 x5 x7 x8 x9 x10 k (some (.int (i : Nat))) (some (.int (t : Nat))) x16 ρ) rfl rfl S.ht (by (first | lia | omega))
  have hL := get_lt S.hs
  obtain ⟨ρ', s', e, ⟨y16, rfl⟩, S', hs⟩ := for_in (bf := law_b1) (ef := skipS) (f := cutE (varE 11) noPart (intPart (varE 14))) (v := 16) (fuel := 65536) (l := tch.take i) (fun (p : Nat) => AV.int (p : Int))
    (fun done r s => (∃ x16, r = fr15 x0 x1 x2 x3 x4 x5 x7 x8 x9 x10 k (some (.int (i : Nat))) (some (.int (t : Nat))) x16 ρ) ∧ Sh n D tch ms k (acc ++ meetRow n D t done) s ∧ s[σ.length]? = some (.list (avN (tch.take i)))) hcut (by rw [List.length_take]; (first | lia | omega)) (fun done ρ x ⟨_, _, h⟩ => h)
    ⟨⟨_, rfl⟩, by
      show Sh n D tch ms k (acc ++ []) _
      rw [List.append_nil]; exact S.old, get_new⟩
    (fun done e rest hd r s ⟨⟨x16, hρ⟩, S, hs⟩ => by
      subst hρ
      have hp : e < t := K.early hi (by rw [hd]; simp)
      have hdl := take_part hd h6
      have c := cross_at (x0 := x0) (x1 := x1) (x2 := x2) (x3 := x3) (x4 := x4) (x5 := x5) (x7 := x7) (x8 := x8) (x9 := x9) (x10 := x10) (k := k) (x14 := some (.int (i : Nat))) (ρ := ρ) h S.base hp htn
      have hlt := get_lt S.hs
      have a := iaddO_at (i := k + 2) (j := s.length) (Nat.ne_of_lt hlt) (get_old S.hs) (get_new (σ := s) (o := .list (avN [(e + oneOf n D (t - e)) % n]))) (by rw [List.length_map, List.length_map, List.length_append, meetRow_len]; exact Nat.le_trans (Nat.add_le_add_right (Nat.add_le_add ha hdl) 1) (by decide))
      rw [← List.map_append, List.append_assoc] at a
      refine ⟨_, _, seq_next (aug_at rfl c a), ⟨_, rfl⟩, ?_, ?_⟩
      · have : meetRow n D t done ++ [(e + oneOf n D (t - e)) % n] = meetRow n D t (done ++ [e]) := by
          unfold meetRow
          rw [List.map_append]
          rfl
        rw [this]
        exact S.old.set hk
      · rw [set_get_ne (by (first | lia | omega))]; exact get_old hs)
  exact ⟨y16, s', seq_next e, S'⟩
theorem main_s15 (h : Pds n D) (K : Tch n tch) (hk : 7 + n ≤ k) (S : Sh n D tch ms k [] σ) :
    ∃ y14 y15 y16 σ', forS true 65536 (tupA 2 (consA (nameA 14) (consA (nameA 15) nilA))) (enumI (consEs (varE 11) nilEs)) law_b2 skipS (fr15 x0 x1 x2 x3 x4 x5 x7 x8 x9 x10 k x14 x15 x16 ρ) σ =
      some (.next, fr15 x0 x1 x2 x3 x4 x5 x7 x8 x9 x10 k y14 y15 y16 ρ, σ') ∧ Sh n D tch ms k (meetsL n D tch tch.length) σ' := by
  have h6 := K.l6
  obtain ⟨ρ', s', e, ⟨y14, y15, y16, rfl⟩, S'⟩ := for_enum (bf := law_b2) (ef := skipS) (fs := consEs (varE 11) nilEs) (v := 14) (w := 15) (fuel := 65536) (l := tch) (id := k) (ρ := fr15 x0 x1 x2 x3 x4 x5 x7 x8 x9 x10 k x14 x15 x16 ρ) (σ := σ) (σ0 := σ) (fun (p : Nat) => AV.int (p : Int))
    (fun i r s => (∃ x14 x15 x16, r = fr15 x0 x1 x2 x3 x4 x5 x7 x8 x9 x10 k x14 x15 x16 ρ) ∧ Sh n D tch ms k (meetsL n D tch i) s) rfl (by (first | lia | omega)) (fun i ρ x ⟨_, S⟩ => S.ht) ⟨⟨_, _, _, rfl⟩, S⟩
    (fun i t hi r s ⟨⟨x14, x15, x16, hρ⟩, S⟩ => by
      subst hρ
      have hil := (List.getElem?_eq_some_iff.mp hi).1
      obtain ⟨y16, s', e, S'⟩ := shared_row (x0 := x0) (x1 := x1) (x2 := x2) (x3 := x3) (x4 := x4) (x5 := x5) (x7 := x7) (x8 := x8) (x9 := x9) (x10 := x10) (x16 := x16) (ρ := ρ) h K hk hi (by have := meetsL_len (D := D) K i (by (first | lia | omega)); (first | lia | omega)) S
      refine ⟨_, _, e, ⟨_, _, _, rfl⟩, ?_⟩
      unfold meetsL at S' ⊢
      rw [flat_snoc, List.getD_eq_getElem?_getD, hi]
      exact S')
  exact ⟨y14, y15, y16, s', e, S'⟩
theorem through_at (hn : n ≤ 60) (B : Base n D σ) (K : Tch n (touchL n D T)) {kk : Nat} (ht : σ[kk]? = some (.list (avN (touchL n D T)))) {x : Nat} :
    callE lenO (consEs (compE false 65536 [none, some 0, some 2] (seqI (varE 1)) (nameA 0) (cmpT inO (varE 1) (binE getO (varE 2) (varE 0))) (varE 0)) nilEs) [some (.int (x : Nat)), some (.ref kk), some (.ref 6)] σ =
      some (.int (throughN n D T x : Nat), σ ++ [.list (avN ((touchL n D T).filter fun t => (lineN n D t).contains x))]) := by
  have h6 := K.l6
  have c := compE_seq (N := 65536) (cap := [none, some 0, some 2]) (ρ := [some (.int (x : Nat)), some (.ref kk), some (.ref 6)]) (cs := [some (.int (x : Nat)), some (.ref 6)]) (σ := σ) (fun (p : Nat) => AV.int (p : Int)) (fun (p : Nat) => AV.int (p : Int)) (fun t => (lineN n D t).contains x) (l := touchL n D T)
    (f := varE 1) (ts := cmpT inO (varE 1) (binE getO (varE 2) (varE 0))) (ef := varE 0) rfl ht (by (first | lia | omega)) rfl fun t htm => by
      have htn := K.lt t htm
      have g1 := getO_list (i := t) (a := .ref (7 + t)) B.hL (by rw [refs_len]; (first | lia | omega)) (refs_get htn)
      exact ⟨cmp_at rfl (bin_at rfl rfl g1) (inO_at (B.hr t htn)), fun _ => rfl⟩
  have hle : ((touchL n D T).filter fun t => (lineN n D t).contains x).length ≤ 6 := Nat.le_trans (List.length_filter_le ..) h6
  have l1 := lenO_list (get_new (σ := σ) (o := .list (avN ((touchL n D T).filter fun t => (lineN n D t).contains x)))) (by rw [List.length_map]; (first | lia | omega))
  rw [List.length_map] at l1
  exact call_at (cons1_at c) l1
theorem main_s16 (h : Dat n D) (K : Tch n (touchL n D T)) {x17 : Option AV} {acc : List Nat} (S : Sh n D (touchL n D T) ms k acc σ) :
    ∃ j σ', law_s16 (fr15 x0 x1 x2 (some (.int (n : Nat))) x4 x5 x7 x8 x9 x10 k x14 x15 x16 (x17 :: ρ)) σ = some (.next, fr15 x0 x1 x2 (some (.int (n : Nat))) x4 x5 x7 x8 x9 x10 k x14 x15 x16 (some (.ref j) :: ρ), σ') ∧
      Sh n D (touchL n D T) ms k acc σ' ∧ σ'[j]? = some (.list (avN ((List.range n).map (throughN n D T)))) := by
  have hn := h.size.le
  obtain ⟨out, s, e, ho, hs⟩ := comp_to (N := 65536) (cap := [none, some 11, some 6]) (ρ := fr15 x0 x1 x2 (some (.int (n : Nat))) x4 x5 x7 x8 x9 x10 k x14 x15 x16 (x17 :: ρ)) (cs := [some (.ref k), some (.ref 6)])
    (ef := callE lenO (consEs (compE false 65536 [none, some 0, some 2] (seqI (varE 1)) (nameA 0) (cmpT inO (varE 1) (binE getO (varE 2) (varE 0))) (varE 0)) nilEs)) (fr := rngI (rngF (consEs (varE 3) nilEs))) (b := n) (σ := σ) (σ0 := σ)
    (fun i out s => out = avN ((List.range i).map (throughN n D T)) ∧ Sh n D (touchL n D T) ms k acc s) (rngI_to (by (first | lia | omega)) rfl) (by (first | lia | omega)) rfl ⟨rfl, S⟩
    (fun i hi out s ⟨ho, S⟩ => by
      refine ⟨_, _, through_at (by (first | lia | omega)) S.base K S.ht, ?_, S.old⟩
      rw [ho]
      unfold avN
      rw [List.range_succ, List.map_append, List.map_append]
      rfl)
  subst ho
  exact ⟨_, _, asg_at e, hs.old, get_new⟩
theorem main_s17 (h : Arc n D) (hT : T < n) (K : Tch n (touchL n D T)) {j : Nat} (S : Sh n D (touchL n D T) (meetsL n D (touchL n D T) (touchL n D T).length) k (meetsL n D (touchL n D T) (touchL n D T).length) σ)
    (hj : σ[j]? = some (.list (avN ((List.range n).map (throughN n D T))))) : ∃ r σ', law_s17 (fr15 x0 x1 x2 x3 x4 (some (.int (D.length : Nat))) x7 x8 (some (.bytes (maskL n (liesL n D T)))) x10 k x14 x15 x16 (some (.ref j) :: ρ)) σ = some (.ret (.bool true), r, σ') := by
  have hn := h.size.le
  have hml := meetsL_len (D := D) K (touchL n D T).length K.l6
  have h6 := K.l6
  have key : ∃ c, op_law_through_f [.int (D.length : Nat), .bytes (maskL n (liesL n D T)), .ref (k + 1)] σ = some (.ref σ.length, σ ++ [.list (avN c)]) ∧ (List.range n).map (throughN n D T) = c := by
    rcases Nat.mod_two_eq_zero_or_one D.length with he | ho
    · exact ⟨_, through_even he (by rw [maskL_length]; (first | lia | omega)) S.hm, counts_even h he hT⟩
    · obtain ⟨m0, h0, hc⟩ := counts_odd h ho hT
      refine ⟨_, through_odd ho (by rw [maskL_length]; (first | lia | omega)) h0 (by (first | lia | omega)) S.hm, ?_⟩
      rw [maskL_length]
      exact hc
  obtain ⟨c, e, hc⟩ := key
  subst hc
  have e1 : binE eqO (varE 12) (varE 13) (fr15 x0 x1 x2 x3 x4 (some (.int (D.length : Nat))) x7 x8 (some (.bytes (maskL n (liesL n D T)))) x10 k x14 x15 x16 (some (.ref j) :: ρ)) σ = some (.bool true, σ) := bin_at rfl rfl (eqO_same (sameL_avN S.hm S.hs))
  have e2 := bin_at (f1 := varE 17) (f2 := callE op_law_through_f (consEs (varE 5) (consEs (varE 9) (consEs (varE 12) nilEs)))) (ρ := fr15 x0 x1 x2 x3 x4 (some (.int (D.length : Nat))) x7 x8 (some (.bytes (maskL n (liesL n D T)))) x10 k x14 x15 x16 (some (.ref j) :: ρ)) rfl (call_at (cons_at rfl (cons_at rfl (cons1_at rfl))) e) (eqO_same (sameL_avN (get_old hj) get_new))
  have e3 : andE (binE eqO (varE 12) (varE 13)) (binE eqO (varE 17) (callE op_law_through_f (consEs (varE 5) (consEs (varE 9) (consEs (varE 12) nilEs))))) (fr15 x0 x1 x2 x3 x4 (some (.int (D.length : Nat))) x7 x8 (some (.bytes (maskL n (liesL n D T)))) x10 k x14 x15 x16 (some (.ref j) :: ρ)) σ = some (.bool true, σ ++ [AO.list (avN ((List.range n).map (throughN n D T)))]) := by
    unfold andE
    rw [e1, Option.bind_some]
    show (some true).bind _ = _
    rw [Option.bind_some]
    dsimp only
    rw [if_pos rfl]
    exact e2
  exact ⟨_, _, ret_at e3⟩
end
theorem law_plain (ns : List Int) (hn : ns.length ≤ 63) : ∃ σ', op_law_1 [.blist (ns.map .int)] [] = some (.bool true, σ') := by
  obtain ⟨S, d, e1, hd, _⟩ := drawn_s1 hn (ρ := List.replicate 16 none) rfl
  have e2 := cells_s2 (S := S) (d := d) (x := some (.blist (ns.map .int))) (ρ := List.replicate 15 none) hd
  have hc4 : (d ++ dfl1.drop d.length).length = 4 := by
    have : dfl1.length = 4 := rfl
    simp
    (first | lia | omega)
  generalize d ++ dfl1.drop d.length = cells at e2 hc4
  obtain ⟨c0, c1, c2, c3, rfl⟩ : ∃ c0 c1 c2 c3, cells = [c0, c1, c2, c3] := by
    match cells, hc4 with
    | [c0, c1, c2, c3], _ => exact ⟨c0, c1, c2, c3, rfl⟩
  generalize hx0 : some (AV.blist (ns.map .int)) = x0 at e1 e2
  generalize AO.list (avN d) = A1 at e1 e2
  generalize AO.list (avN dfl1) = A2 at e2
  generalize AO.list (avN (dfl1.drop d.length)) = A3 at e2
  obtain ⟨n, D, A, e3⟩ := main_s3 (x0 := x0) (x1 := some (.ref 1)) (x3 := none) (x4 := none) (ρ := List.replicate 13 none) (A0 := S) (A1 := A1) (A2 := A2) (A3 := A3) (c0 := c0) (c1 := c1) (c2 := c2) (c3 := c3)
  have P := A.toPds
  have H := P.toDat
  have hnn := H.size.le
  have h3 := H.l3
  have h6 := H.l6
  have e4 := main_s4 (x0 := x0) (x1 := some (.ref 1)) (x2 := some (.ref 4)) (x3 := some (.int (n : Nat))) (x5 := none) (ρ := List.replicate 12 none) (σ := [S, A1, A2, A3, AO.list (avN [c0, c1, c2, c3]), AO.list (avN D)]) H rfl
  obtain ⟨σ5, e5, B5, l5⟩ := main_s5 (x0 := x0) (x1 := some (.ref 1)) (x2 := some (.ref 4)) (x5 := some (.int (D.length : Nat))) (x6 := none) (ρ := List.replicate 11 none) H (A0 := S) (A1 := A1) (A2 := A2) (A3 := A3) (A4 := AO.list (avN [c0, c1, c2, c3]))
  have h45 : ([S, A1, A2, A3, AO.list (avN [c0, c1, c2, c3]), AO.list (avN D)] ++ σ5)[4]? = some (AO.list (avN [c0, c1, c2, c3])) := rfl
  have hl5 : ([S, A1, A2, A3, AO.list (avN [c0, c1, c2, c3]), AO.list (avN D)] ++ σ5).length = n + 7 := by
    rw [List.length_append, l5]
    show 6 + (n + 1) = _
    (first | lia | omega)
  generalize [S, A1, A2, A3, AO.list (avN [c0, c1, c2, c3]), AO.list (avN D)] ++ σ5 = s5 at e5 B5 h45 hl5
  have e6 := main_s6 (x0 := x0) (x1 := some (.ref 1)) (x2 := some (.ref 4)) (x4 := some (.ref 5)) (x7 := none) (ρ := List.replicate 10 none) H B5
  have h46 := get_old (τ := [AO.list ((refsFrom 7 n).take D.length)]) h45
  have B6 := B5.old (τ := [AO.list ((refsFrom 7 n).take D.length)])
  have hl6 : (s5 ++ [AO.list ((refsFrom 7 n).take D.length)]).length = n + 8 := by rw [List.length_append, hl5]; rfl
  generalize s5 ++ [AO.list ((refsFrom 7 n).take D.length)] = s6 at e6 h46 B6 hl6
  have e7 := main_if1 (x0 := x0) (x1 := some (.ref 1)) (x2 := some (.ref 4)) (x5 := some (.int (D.length : Nat))) (x6 := some (.ref 6)) (ρ := List.replicate 10 none) H B6.hd
  have e8 := main_s8 (x0 := x0) (x1 := some (.ref 1)) (x3 := some (.int (n : Nat))) (x4 := some (.ref 5)) (x6 := some (.ref 6)) (x7 := some (.bytes ((List.range D.length).flatMap fun t => maskL n (liesL n D t)))) (x8 := none) (ρ := List.replicate 9 none) H h46
  have hTf : c3 % D.length < D.length := Nat.mod_lt _ (by (first | lia | omega))
  have hT : c3 % D.length < n := by (first | lia | omega)
  generalize c3 % D.length = T at e8 hTf hT
  have e9 := main_s9 (x0 := x0) (x1 := some (.ref 1)) (x2 := some (.ref 4)) (x4 := some (.ref 5)) (x5 := some (.int (D.length : Nat))) (x6 := some (.ref 6)) (x9 := none) (ρ := List.replicate 8 none) (σ := s6) H hTf
  generalize some (AV.bytes ((List.range D.length).flatMap fun t => maskL n (liesL n D t))) = x7 at e6 e7 e8 e9
  have e10 := main_s10 (T := T) (x0 := x0) (x1 := some (.ref 1)) (x2 := some (.ref 4)) (x3 := some (.int (n : Nat))) (x4 := some (.ref 5)) (x5 := some (.int (D.length : Nat))) (x7 := x7) (x8 := some (.int (T : Nat))) (x10 := none) (ρ := List.replicate 7 none) H B6
  have C10 := comm_made (n := n) (D := D) (T := T) (σ := s6)
  have B10 := (B6.old (τ := commR n D T n)).old (τ := [AO.list (refsFrom s6.length n)])
  have hl10 : n + 8 ≤ ((s6 ++ commR n D T n) ++ [AO.list (refsFrom s6.length n)]).length := by rw [List.length_append, List.length_append, hl6]; (first | lia | omega)
  generalize (s6 ++ commR n D T n) ++ [AO.list (refsFrom s6.length n)] = s10 at e10 C10 B10 hl10
  generalize s6.length = a at e10 C10
  obtain ⟨τ, e11⟩ := main_if2 (x0 := x0) (x1 := some (.ref 1)) (x2 := some (.ref 4)) (x5 := some (.int (D.length : Nat))) (x6 := some (.ref 6)) (x7 := x7) (x9 := some (.bytes (maskL n (liesL n D T)))) (ρ := List.replicate 7 none) H B10.hd C10 hT
  have B11 := B10.old (τ := τ)
  have C11 := C10.old (τ := τ)
  have hl11 : n + 8 ≤ (s10 ++ τ).length := by rw [List.length_append]; (first | lia | omega)
  generalize s10 ++ τ = s11 at e11 B11 C11 hl11
  have e12 := main_s12 (x0 := x0) (x1 := some (.ref 1)) (x2 := some (.ref 4)) (x3 := some (.int (n : Nat))) (x4 := some (.ref 5)) (x5 := some (.int (D.length : Nat))) (x6 := some (.ref 6)) (x7 := x7) (x8 := some (.int (T : Nat))) (x9 := some (.bytes (maskL n (liesL n D T)))) (x11 := none) (ρ := List.replicate 6 none) H C11
  obtain ⟨K, _⟩ := touch_tch P hT
  generalize hk : s11.length = k at e12 hl11
  have g12 : (s11 ++ [AO.list (avN (touchL n D T))])[k]? = some (AO.list (avN (touchL n D T))) := by rw [← hk]; exact get_new
  have e13 := main_s13 (x0 := x0) (x1 := some (.ref 1)) (x2 := some (.ref 4)) (x5 := some (.int (D.length : Nat))) (x6 := some (.ref 6)) (x7 := x7) (x8 := some (.int (T : Nat))) (x9 := some (.bytes (maskL n (liesL n D T)))) (x10 := some (.ref (a + n))) (x12 := none) (ρ := List.replicate 5 none) P hT (B11.old (τ := [AO.list (avN (touchL n D T))])).hd g12 (by (first | lia | omega))
  have l12 : (s11 ++ [AO.list (avN (touchL n D T))]).length = k + 1 := by rw [List.length_append, hk]; rfl
  rw [l12] at e13
  have e14 := main_s14 (x0 := x0) (x1 := some (.ref 1)) (x2 := some (.ref 4)) (x3 := some (.int (n : Nat))) (x4 := some (.ref 5)) (x5 := some (.int (D.length : Nat))) (x6 := some (.ref 6)) (x7 := x7) (x8 := some (.int (T : Nat))) (x9 := some (.bytes (maskL n (liesL n D T)))) (x10 := some (.ref (a + n))) (x11 := some (.ref k)) (x12 := some (.ref (k + 1))) (x13 := none) (ρ := List.replicate 4 none)
    (σ := (s11 ++ [AO.list (avN (touchL n D T))]) ++ [AO.list (avN (meetsL n D (touchL n D T) (touchL n D T).length))])
  have l13 : ((s11 ++ [AO.list (avN (touchL n D T))]) ++ [AO.list (avN (meetsL n D (touchL n D T) (touchL n D T).length))]).length = k + 2 := by rw [List.length_append, l12]; rfl
  rw [l13] at e14
  have S14 : Sh n D (touchL n D T) (meetsL n D (touchL n D T) (touchL n D T).length) k [] (((s11 ++ [AO.list (avN (touchL n D T))]) ++ [AO.list (avN (meetsL n D (touchL n D T) (touchL n D T).length))]) ++ [AO.list (avN [])]) :=
    ⟨B11.old.old.old, get_old (get_old g12), get_old (by rw [← l12]; exact get_new), by rw [← l13]; exact get_new⟩
  obtain ⟨y14, y15, y16, s15, e15, S15⟩ := main_s15 (x0 := x0) (x1 := some (.ref 1)) (x2 := some (.ref 4)) (x3 := some (.int (n : Nat))) (x4 := some (.ref 5)) (x5 := some (.int (D.length : Nat))) (x7 := x7) (x8 := some (.int (T : Nat))) (x9 := some (.bytes (maskL n (liesL n D T)))) (x10 := some (.ref (a + n))) (x14 := none) (x15 := none) (x16 := none) (ρ := [none]) P K (by (first | lia | omega)) S14
  obtain ⟨j, s16, e16, S16, hj⟩ := main_s16 (x0 := x0) (x1 := some (.ref 1)) (x2 := some (.ref 4)) (x4 := some (.ref 5)) (x5 := some (.int (D.length : Nat))) (x7 := x7) (x8 := some (.int (T : Nat))) (x9 := some (.bytes (maskL n (liesL n D T)))) (x10 := some (.ref (a + n))) (x14 := y14) (x15 := y15) (x16 := y16) (x17 := none) (ρ := []) H K S15
  obtain ⟨r, s17, e17⟩ := main_s17 (x0 := x0) (x1 := some (.ref 1)) (x2 := some (.ref 4)) (x3 := some (.int (n : Nat))) (x4 := some (.ref 5)) (x7 := x7) (x8 := some (.int (T : Nat))) (x10 := some (.ref (a + n))) (x14 := y14) (x15 := y15) (x16 := y16) (ρ := []) A hT K S16 hj
  have hF : law_F (x0 :: List.replicate 17 none) [] = some (.ret (.bool true), r, s17) := by
    unfold law_F
    refine (seq_next e1).trans ((seq_next e2).trans ((seq_next e3).trans ((seq_next e4).trans ((seq_next e5).trans ((seq_next e6).trans ((seq_next e7).trans ((seq_next e8).trans ((seq_next e9).trans ((seq_next e10).trans ((seq_next e11).trans ((seq_next e12).trans ((seq_next e13).trans ((seq_next e14).trans ((seq_next e15).trans ((seq_next e16).trans (seq_ret e17))))))))))))))))
  exact ⟨s17, (plain_eq (n := 1) rfl).trans (callF_of (by rw [← hx0]; rfl) hF)⟩
end Mine
end
section
namespace Mine
theorem law_holds : PySem.Challenge.rw_wf0025_01.Holds := holds_of law_plain
end Mine
end
theorem PySem.Challenge.cw_wf0025_01_holds : PySem.Challenge.rw_wf0025_01.Holds := by
  exact Mine.law_holds
