import PyProof.Rows.All
import Wide.All
import OpenK.AllK
import Wide.FinOn
import PySem.Challenge.RW_pg0161_01
set_option Elab.async false
set_option linter.all false
section
open PySem PySem.W PySem.Calls PyProof.Rows
set_option Elab.async false
set_option maxRecDepth 100000
namespace Mine

noncomputable abbrev View := Addr → Option Obj
noncomputable def Sub (g g' : View) : Prop := ∀ b o, g b = some o → g' b = some o
theorem Sub.refl (g : View) : Sub g g := fun _ _ e => e
theorem Sub.trans {g g' g'' : View} (x : Sub g g') (y : Sub g' g'') : Sub g g'' := fun b o e => y b o (x b o e)

inductive PV where
  | none
  | bool (b : Bool)
  | int (i : Int)
  | str (s : List Nat)
  | tup (xs : List PV)
  | list (xs : List PV)
  | inst (C : Addr) (ns : List Str) (xs : List PV)

noncomputable def txt (s : List Nat) : Str := ⟨s.toArray⟩
noncomputable def keyName : Value → Option Str
  | .str n _ => some n
  | _ => none

noncomputable abbrev listObj (vs : List Value) (n : Nat) : Obj := { cls := .type "list", data := .seq vs.toArray n }
noncomputable abbrev tupObj (vs : List Value) (n : Nat) : Obj := { cls := .type "tuple", data := .seq vs.toArray n }

mutual
noncomputable def Rd (g : View) : PV → Value → Prop
  | .none, v => v = .none
  | .bool b, v => v = .bool b
  | .int i, v => ∃ t, v = .int i t
  | .str s, v => ∃ t, v = .str (txt s) t
  | .tup xs, v => ∃ a vs n, v = .ref a ∧ g a = some (tupObj vs n) ∧ Rds g xs vs
  | .list xs, v => ∃ a vs n, v = .ref a ∧ g a = some (listObj vs n) ∧ Rds g xs vs
  | .inst C ns xs, v => ∃ a dx es n, v = .ref a ∧ g a = some (instObj C dx) ∧ g dx = some (dictOf es n) ∧ es.map (fun e => keyName e.key) = ns.map some ∧ Rds g xs (es.map DictEntry.val)
noncomputable def Rds (g : View) : List PV → List Value → Prop
  | [], vs => vs = []
  | x :: xs, vs => ∃ v vs', vs = v :: vs' ∧ Rd g x v ∧ Rds g xs vs'
end

mutual
theorem Rd.mono {g g' : View} (h : Sub g g') : ∀ (d : PV) (v : Value), Rd g d v → Rd g' d v
  | .none, _, x => by rw [Rd] at x ⊢; exact x
  | .bool _, _, x => by rw [Rd] at x ⊢; exact x
  | .int _, _, x => by rw [Rd] at x ⊢; exact x
  | .str _, _, x => by rw [Rd] at x ⊢; exact x
  | .tup xs, _, x => by
    rw [Rd] at x ⊢
    obtain ⟨a, vs, n, e, ho, r⟩ := x
    exact ⟨a, vs, n, e, h _ _ ho, Rds.mono h xs vs r⟩
  | .list xs, _, x => by
    rw [Rd] at x ⊢
    obtain ⟨a, vs, n, e, ho, r⟩ := x
    exact ⟨a, vs, n, e, h _ _ ho, Rds.mono h xs vs r⟩
  | .inst C ns xs, _, x => by
    rw [Rd] at x ⊢
    obtain ⟨a, dx, es, n, e, ho, hd, hk, r⟩ := x
    exact ⟨a, dx, es, n, e, h _ _ ho, h _ _ hd, hk, Rds.mono h xs _ r⟩
theorem Rds.mono {g g' : View} (h : Sub g g') : ∀ (ds : List PV) (vs : List Value), Rds g ds vs → Rds g' ds vs
  | [], _, x => by rw [Rds] at x ⊢; exact x
  | d :: ds, _, x => by
    rw [Rds] at x ⊢
    obtain ⟨v, vs', e, r, rs⟩ := x
    exact ⟨v, vs', e, Rd.mono h d v r, Rds.mono h ds vs' rs⟩
end

theorem rd_none {g : View} {v : Value} : Rd g .none v ↔ v = .none := by rw [Rd]
theorem rd_bool {g : View} {b : Bool} {v : Value} : Rd g (.bool b) v ↔ v = .bool b := by rw [Rd]
theorem rd_int {g : View} {i : Int} {v : Value} : Rd g (.int i) v ↔ ∃ t, v = .int i t := by rw [Rd]
theorem rd_str {g : View} {x : List Nat} {v : Value} : Rd g (.str x) v ↔ ∃ t, v = .str (txt x) t := by rw [Rd]
theorem rd_tup {g : View} {xs : List PV} {v : Value} : Rd g (.tup xs) v ↔ ∃ a vs n, v = .ref a ∧ g a = some (tupObj vs n) ∧ Rds g xs vs := by rw [Rd]
theorem rd_list {g : View} {xs : List PV} {v : Value} : Rd g (.list xs) v ↔ ∃ a vs n, v = .ref a ∧ g a = some (listObj vs n) ∧ Rds g xs vs := by rw [Rd]
theorem rd_inst {g : View} {C : Addr} {ns : List Str} {xs : List PV} {v : Value} : Rd g (.inst C ns xs) v ↔ ∃ a dx es n, v = .ref a ∧ g a = some (instObj C dx) ∧ g dx = some (dictOf es n) ∧ es.map (fun e => keyName e.key) = ns.map some ∧ Rds g xs (es.map DictEntry.val) := by rw [Rd]

theorem Rds.nil {g : View} : Rds g [] [] := by rw [Rds]
theorem Rds.cons {g : View} {d : PV} {v : Value} {ds : List PV} {vs : List Value} (a : Rd g d v) (b : Rds g ds vs) : Rds g (d :: ds) (v :: vs) := by
  rw [Rds]; exact ⟨v, vs, rfl, a, b⟩
theorem Rds.of_cons {g : View} {d : PV} {v : Value} {ds : List PV} {vs : List Value} (x : Rds g (d :: ds) (v :: vs)) : Rd g d v ∧ Rds g ds vs := by
  rw [Rds] at x
  obtain ⟨v', vs', e, r, rs⟩ := x
  cases e
  exact ⟨r, rs⟩
theorem Rds.len {g : View} : ∀ {ds : List PV} {vs : List Value}, Rds g ds vs → vs.length = ds.length
  | [], _, x => by rw [Rds] at x; subst x; rfl
  | d :: ds, _, x => by
    rw [Rds] at x
    obtain ⟨v, vs', e, _, rs⟩ := x
    subst e
    simp [Rds.len rs]
theorem Rds.get {g : View} : ∀ {ds : List PV} {vs : List Value} {i : Nat} {d : PV}, Rds g ds vs → ds[i]? = some d → ∃ v, vs[i]? = some v ∧ Rd g d v
  | [], _, _, _, _, e => by simp at e
  | x :: ds, _, i, d, h, e => by
    rw [Rds] at h
    obtain ⟨v, vs', rfl, r, rs⟩ := h
    cases i with
    | zero => simp at e; subst e; exact ⟨v, by simp, r⟩
    | succ i => simp at e; simpa using Rds.get rs e
theorem Rds.intro {g : View} : ∀ {ds : List PV} {vs : List Value}, vs.length = ds.length → (∀ (i : Nat) (d : PV) (v : Value), ds[i]? = some d → vs[i]? = some v → Rd g d v) → Rds g ds vs
  | [], vs, e, _ => by cases vs with | nil => exact Rds.nil | cons => simp at e
  | d :: ds, vs, e, h => by
    cases vs with
    | nil => simp at e
    | cons v vs => exact Rds.cons (h 0 d v (by simp) (by simp)) (Rds.intro (by simpa using e) fun i d' v' a b => h (i + 1) d' v' (by simpa using a) (by simpa using b))
theorem Rds.append {g : View} : ∀ {ds es : List PV} {vs ws : List Value}, Rds g ds vs → Rds g es ws → Rds g (ds ++ es) (vs ++ ws)
  | [], _, _, _, x, y => by rw [Rds] at x; subst x; exact y
  | d :: ds, es, vs, ws, x, y => by
    rw [Rds] at x
    obtain ⟨v, vs', rfl, r, rs⟩ := x
    exact Rds.cons r (Rds.append rs y)
theorem Rds.take {g : View} (k : Nat) {ds : List PV} {vs : List Value} (x : Rds g ds vs) : Rds g (ds.take k) (vs.take k) :=
  Rds.intro (by simp [x.len]) fun i d v a b => by
    rw [List.getElem?_take] at a b
    split at a
    · rename_i hi
      rw [if_pos hi] at b
      obtain ⟨v', hv, r⟩ := x.get a
      rw [hv] at b; cases b; exact r
    · cases a
theorem Rds.drop {g : View} (k : Nat) {ds : List PV} {vs : List Value} (x : Rds g ds vs) : Rds g (ds.drop k) (vs.drop k) :=
  Rds.intro (by simp [x.len]) fun i d v a b => by
    rw [List.getElem?_drop] at a b
    obtain ⟨v', hv, r⟩ := x.get a
    rw [hv] at b; cases b; exact r
theorem Rds.reverse {g : View} {ds : List PV} {vs : List Value} (x : Rds g ds vs) : Rds g ds.reverse vs.reverse := by
  induction ds generalizing vs with
  | nil => rw [Rds] at x; subst x; exact Rds.nil
  | cons d ds ih =>
    rw [Rds] at x
    obtain ⟨v, vs', rfl, r, rs⟩ := x
    rw [List.reverse_cons, List.reverse_cons]
    exact Rds.append (ih rs) (Rds.cons r Rds.nil)
theorem Rds.set {g : View} {ds : List PV} {vs : List Value} {i : Nat} {d : PV} {v : Value} (x : Rds g ds vs) (r : Rd g d v) : Rds g (ds.set i d) (vs.set i v) :=
  Rds.intro (by simp [x.len]) fun j d' v' a b => by
    rw [List.getElem?_set] at a b
    split at a
    · rename_i e
      rw [if_pos e] at b
      split at a
      · cases a
        split at b
        · cases b; exact r
        · cases b
      · cases a
    · rename_i e
      rw [if_neg e] at b
      obtain ⟨w, hw, r'⟩ := x.get a
      rw [hw] at b; cases b; exact r'

noncomputable def Ext (h h' : Heap) : Prop := ∀ b o, h.get? b = some o → h'.get? b = some o
theorem Ext.refl (h : Heap) : Ext h h := fun _ _ e => e
theorem Ext.trans {h h' h'' : Heap} (x : Ext h h') (y : Ext h' h'') : Ext h h'' := fun b o e => y b o (x b o e)
theorem Ext.push (h : Heap) (o : Obj) : Ext h (h.push o) := fun _ _ e => Heap.get?_push_of_some o e

structure Step (h : Heap) (g : View) (h' : Heap) (g' : View) : Prop where
  ext : Ext h h'
  sub : Sub g g'
  into : Sub g' h'.get?
  fresh : ∀ b o, h.get? b = some o → g b = none → g' b = none

theorem Step.refl {h : Heap} {g : View} (x : Sub g h.get?) : Step h g h g := ⟨Ext.refl h, Sub.refl g, x, fun _ _ _ e => e⟩
theorem Step.trans {h h' h'' : Heap} {g g' g'' : View} (x : Step h g h' g') (y : Step h' g' h'' g'') : Step h g h'' g'' :=
  ⟨x.ext.trans y.ext, x.sub.trans y.sub, y.into, fun b o e n => y.fresh b o (x.ext b o e) (x.fresh b o e n)⟩
noncomputable def grow (g : View) (h h' : Heap) : View := fun b => match g b with
  | some o => some o
  | none => if (h.get? b).isSome then none else h'.get? b
theorem Step.grow {h h' : Heap} {g : View} (x : Sub g h.get?) (e : Ext h h') : Step h g h' (grow g h h') := by
  refine ⟨e, fun b o q => ?_, fun b o q => ?_, fun b o q n => ?_⟩
  · simp only [Mine.grow, q]
  · unfold Mine.grow at q
    cases hg : g b with
    | some o' => rw [hg] at q; cases q; exact e _ _ (x _ _ hg)
    | none =>
      rw [hg] at q
      dsimp only at q
      by_cases hh : (h.get? b).isSome = true
      · rw [if_pos hh] at q; cases q
      · rw [if_neg hh] at q; exact q
  · simp only [Mine.grow, n, q, Option.isSome_some, if_true]
theorem grow_new {h h' : Heap} {g : View} (x : Sub g h.get?) {a : Addr} {o : Obj} (n : h.get? a = none) (e : h'.get? a = some o) : grow g h h' a = some o := by
  unfold grow
  cases hg : g a with
  | some o' => have := x _ _ hg; rw [n] at this; cases this
  | none => simp [n, e]
theorem Step.keep {h h' : Heap} {g : View} (x : Sub g h.get?) (e : Ext h h') : Step h g h' g := ⟨e, Sub.refl g, fun b o q => e b o (x b o q), fun _ _ _ n => n⟩
theorem fresh_get {h : Heap} : h.get? h.objs.size = none := by
  cases e : h.get? h.objs.size with
  | none => rfl
  | some o => exact absurd (Heap.lt_size e) (Nat.lt_irrefl _)
noncomputable def put (g : View) (a : Addr) (o : Obj) : View := fun b => if b = a then some o else g b
theorem Sub.put {g : View} {a : Addr} {o : Obj} (n : g a = none) : Sub g (put g a o) := fun b o' e => by
  unfold Mine.put
  by_cases hb : b = a
  · subst hb; rw [n] at e; cases e
  · rw [if_neg hb]; exact e
theorem put_self (g : View) (a : Addr) (o : Obj) : put g a o a = some o := by simp [put]

inductive SK where
  | loc
  | own (c : Addr)
  | far (c : Addr)
inductive Slot where
  | empty
  | val (d : PV)
  | own (xs : List PV)
  | self (a : Addr) (C : Addr) (ns : List Str) (xs : List PV)
noncomputable abbrev St := List Slot
noncomputable abbrev Names := List (Str × SK)

noncomputable def Holds (h : Heap) (m : Str → Option Value) (x : Str) (v : Value) : SK → Prop
  | .loc => m x = some v
  | .own c => ∃ o, h.get? c = some o ∧ o.data = .cell (some v)
  | .far c => ∃ o, h.get? c = some o ∧ o.data = .cell (some v)


noncomputable def SlotOk (L : Addr) (base g : View) (h : Heap) (m : Str → Option Value) (a : Addr) (x : Str) (k : SK) : Slot → Prop
  | .empty => True
  | .val d => ∃ v, Holds h m x v k ∧ Rd g d v
  | .own xs => k = .loc ∧ m x = some (.ref a) ∧ base a = none ∧ g a = none ∧ ∃ vs n, h.get? a = some (listObj vs n) ∧ Rds g xs vs
  | .self a0 C ns xs => k = .loc ∧ m x = some (.ref a) ∧ base a = none ∧ g a = none ∧ ∃ dx es n, h.get? a = some (instObj C dx) ∧ dx ≠ L ∧ base dx = none ∧ g dx = none ∧ h.get? dx = some (dictOf es n) ∧
      es.map (fun e => keyName e.key) = ns.map some ∧ Rds g xs (es.map DictEntry.val) ∧ a = a0

noncomputable def Slot.isOwn : Slot → Bool
  | .own _ => true
  | .self _ _ _ _ => true
  | _ => false

structure FCore (H : View) (L : Addr) (names : Names) (base : View) (σ : St) (g : View) (h : Heap) (m : Str → Option Value) (ad : Nat → Addr) : Prop where
  ns : h.Ns L m
  home : Sub H g
  baseL : base L = none
  gL : g L = none
  subB : Sub base h.get?
  subG : Sub g h.get?
  len : σ.length = names.length
  slot : ∀ i x k sl, names[i]? = some (x, k) → σ[i]? = some sl → SlotOk L base g h m (ad i) x k sl
  cells : ∀ x c, (x, SK.own c) ∈ names → base c = none ∧ g c = none ∧ ∃ o v, h.get? c = some o ∧ o.data = .cell v
  fars : ∀ x c, (x, SK.far c) ∈ names → ∃ o, base c = some o
  apart : ∀ i j sl sl', σ[i]? = some sl → σ[j]? = some sl' → sl.isOwn = true → sl'.isOwn = true → ad i = ad j → i = j

noncomputable def FRel (H : View) (L : Addr) (names : Names) (base : View) (σ : St) (g : View) (h : Heap) : Prop := ∃ m ad, FCore H L names base σ g h m ad

theorem Holds.ext {h h' : Heap} {m : Str → Option Value} {x : Str} {v : Value} {k : SK} (y : Holds h m x v k) (e : Ext h h') : Holds h' m x v k := by
  cases k with
  | loc => exact y
  | own c => obtain ⟨o, ho, hd⟩ := y; exact ⟨o, e _ _ ho, hd⟩
  | far c => obtain ⟨o, ho, hd⟩ := y; exact ⟨o, e _ _ ho, hd⟩

theorem FCore.step {H base g g' : View} {L : Addr} {names : Names} {σ : St} {h h' : Heap} {m : Str → Option Value} {ad : Nat → Addr} (x : FCore H L names base σ g h m ad) (t : Step h g h' g') : FCore H L names base σ g' h' m ad := by
  obtain ⟨oL, a1, a2, hL, a3⟩ := x.ns
  refine ⟨⟨oL, a1, a2, t.ext _ _ hL, a3⟩, x.home.trans t.sub, x.baseL, t.fresh _ _ hL x.gL, fun b o e => t.ext _ _ (x.subB _ _ e), t.into, x.len, ?_, ?_, x.fars, x.apart⟩
  · intro i nm k sl hn hs
    have y := x.slot i nm k sl hn hs
    cases sl with
    | empty => trivial
    | val d => obtain ⟨v, hv, r⟩ := y; exact ⟨v, hv.ext t.ext, Rd.mono t.sub d v r⟩
    | own xs =>
      obtain ⟨hk, hm, hb, hg, vs, n, ho, r⟩ := y
      exact ⟨hk, hm, hb, t.fresh _ _ ho hg, vs, n, t.ext _ _ ho, Rds.mono t.sub xs vs r⟩
    | self a0 C ns xs =>
      obtain ⟨hk, hm, hb, hg, dx, es, n, ho, hdL, hb', hg', hd, he, r⟩ := y
      exact ⟨hk, hm, hb, t.fresh _ _ ho hg, dx, es, n, t.ext _ _ ho, hdL, hb', t.fresh _ _ hd hg', t.ext _ _ hd, he, Rds.mono t.sub xs _ r.1, r.2⟩
  · intro nm c hm
    obtain ⟨hb, hg, o, v, ho, hd⟩ := x.cells nm c hm
    exact ⟨hb, t.fresh _ _ ho hg, o, v, t.ext _ _ ho, hd⟩
theorem FRel.step {H base g g' : View} {L : Addr} {names : Names} {σ : St} {h h' : Heap} (x : FRel H L names base σ g h) (t : Step h g h' g') : FRel H L names base σ g' h' :=
  let ⟨m, ad, x⟩ := x; ⟨m, ad, x.step t⟩

theorem FRel.subG {H base g : View} {L : Addr} {names : Names} {σ : St} {h : Heap} (x : FRel H L names base σ g h) : Sub g h.get? := let ⟨_, _, x⟩ := x; x.subG
theorem FRel.subB {H base g : View} {L : Addr} {names : Names} {σ : St} {h : Heap} (x : FRel H L names base σ g h) : Sub base h.get? := let ⟨_, _, x⟩ := x; x.subB
theorem FRel.home {H base g : View} {L : Addr} {names : Names} {σ : St} {h : Heap} (x : FRel H L names base σ g h) : Sub H g := let ⟨_, _, x⟩ := x; x.home
structure Box (p : Prop) : Prop where
  out : p
structure EnvOk (env : Env) (names : Names) : Prop where
  kind : env.scope.kind = .function
  loc : ∀ x, (x, SK.loc) ∈ names → env.kindOf x = some .local
  own : ∀ x c, (x, SK.own c) ∈ names → env.kindOf x = some .cell ∧ env.cells.lookup x = some c
  far : ∀ x c, (x, SK.far c) ∈ names → (env.kindOf x = some .cell ∨ (env.kindOf x = some .free ∧ (x == ("__classdict__" : Str)) = false)) ∧ env.cells.lookup x = some c
  dbg : ∀ p ∈ names, (p.1 == ("__debug__" : Str)) = false
  nodup : (names.map (·.1)).Nodup
  apart : ∀ x y c, (x, SK.own c) ∈ names → (y, SK.own c) ∈ names → x = y

structure Room (k : Nat) (A : Around) : Prop where
  hand : A.handled = none
  depth : A.depth + 3 * k < recursionLimit
  units : A.units + 100 * k < cLine
theorem Room.less {k j : Nat} {A : Around} (r : Room k A) (h : j ≤ k) : Room j A := ⟨r.hand, by have := r.depth; omega, by have := r.units; omega⟩
theorem Room.deeper {k : Nat} {A : Around} (r : Room (k + 1) A) (env : Env) : Room k (A.deeper env) := ⟨r.hand, by have := r.depth; show A.depth + 1 + _ < _; omega, by have := r.units; show A.units + 3 + _ < _; omega⟩

noncomputable abbrev NoE : Value → Shared → Prop := fun _ _ => False
inductive Out where
  | next (σ : St)
  | brk (σ : St)
  | cont (σ : St)
  | ret (d : PV)

section
variable (prog : Program) (w : World) (H : View)

noncomputable def EOk (k : Nat) (env : Env) (names : Names) (e : Expr) (f : St → Option PV) : Prop := Box (
  ∀ (A : Around) (s : Shared) (base g : View) (σ : St) (d : PV) (Q : Value → Shared → Prop), Room k A → FRel H env.locals names base σ g s.heap → f σ = some d →
    (∀ v h' tk g', Step s.heap g h' g' → Rd g' d v → Q v { s with heap := h', toks := tk }) → wpAny (model prog w) A (eval e env) Q NoE s)

noncomputable def LOk (k : Nat) (env : Env) (names : Names) (e : Expr) (f : St → Option (List PV)) : Prop := Box (
  ∀ (A : Around) (s : Shared) (base g : View) (σ : St) (xs : List PV) (Q : Value → Shared → Prop), Room k A → FRel H env.locals names base σ g s.heap → f σ = some xs →
    (∀ a vs n h' tk g', Step s.heap g h' g' → s.heap.get? a = none → g' a = none → h'.get? a = some (listObj vs n) → Rds g' xs vs → Q (.ref a) { s with heap := h', toks := tk }) → wpAny (model prog w) A (eval e env) Q NoE s)

noncomputable def TOk (k : Nat) (env : Env) (names : Names) (e : Expr) (f : St → Option Bool) : Prop := Box (
  ∀ (A : Around) (s : Shared) (base g : View) (σ : St) (b : Bool) (Q : Bool → Shared → Prop), Room k A → FRel H env.locals names base σ g s.heap → f σ = some b →
    (∀ h' tk g', Step s.heap g h' g' → Q b { s with heap := h', toks := tk }) → wpAny (model prog w) A (isTrue e env (eval e env)) Q NoE s)

noncomputable def VOk (env : Env) (names : Names) (e : Expr) (v : Value) : Prop := Box (
  ∀ (A : Around) (s : Shared) (base g : View) (σ : St) (Q : Value → Shared → Prop), FRel H env.locals names base σ g s.heap → Q v s → wpAny (model prog w) A (eval e env) Q NoE s)

noncomputable def COk (k : Nat) (fv : Value) (F : List PV → Option PV) : Prop := Box (
  ∀ (A : Around) (s : Shared) (g : View) (vs : List Value) (ds : List PV) (d : PV) (Q : Value → Shared → Prop), Room k A → Sub H g → Sub g s.heap.get? → Rds g ds vs → F ds = some d →
    (∀ v h' tk g', Step s.heap g h' g' → Rd g' d v → Q v { s with heap := h', toks := tk }) → wpAny (model prog w) A (call fv vs) Q NoE s)

noncomputable def OutOk (L : Addr) (names : Names) (base : View) : Out → Flow → Heap → View → Prop
  | .next σ, fl, h, g => fl = .next ∧ FRel H L names base σ g h
  | .brk σ, fl, h, g => fl = .brk ∧ FRel H L names base σ g h
  | .cont σ, fl, h, g => fl = .cont ∧ FRel H L names base σ g h
  | .ret d, fl, h, g => ∃ v, fl = .ret v ∧ Rd g d v ∧ Sub base h.get? ∧ Sub g h.get?

noncomputable def XOk (k : Nat) (env : Env) (names : Names) (b : List Stmt) (f : St → Option Out) : Prop := Box (
  ∀ (A : Around) (s : Shared) (base g : View) (σ : St) (o : Out) (Q : Flow → Shared → Prop), Room k A → FRel H env.locals names base σ g s.heap → f σ = some o →
    (∀ fl h' tk g', Sub g g' → (∀ b x, base b = some x → g b = none → g' b = none) → OutOk H env.locals names base o fl h' g' → Q fl { s with heap := h', toks := tk }) → wpAny (model prog w) A (execs b env) Q NoE s)

noncomputable def SOk (k : Nat) (env : Env) (names : Names) (st : Stmt) (f : St → Option Out) : Prop := Box (
  ∀ (A : Around) (s : Shared) (base g : View) (σ : St) (o : Out) (Q : Flow → Shared → Prop), Room k A → FRel H env.locals names base σ g s.heap → f σ = some o →
    (∀ fl h' tk g', Sub g g' → (∀ b x, base b = some x → g b = none → g' b = none) → OutOk H env.locals names base o fl h' g' → Q fl { s with heap := h', toks := tk }) → wpAny (model prog w) A (exec st env) Q NoE s)
end

end Mine
end
section
open PySem PySem.W PySem.Calls PyProof.Rows
set_option Elab.async false
set_option maxRecDepth 100000
namespace Mine
noncomputable section
section
variable {prog : Program} {w : World} {H : View} {k : Nat} {env : Env} {names : Names}

theorem E_int {i : Int} {kk : Nat} {pos : Pos} : EOk prog w H k env names (.Constant (.int i) kk pos) (fun _ => some (.int i)) := by
  refine ⟨?_⟩
  intro A s base g σ d Q _ F e hQ
  cases e
  exact wpAny_Constant_int (hQ _ s.heap _ g (.refl F.subG) (by rw [Rd]; exact ⟨_, rfl⟩))
theorem txt_cps (x : Str) : txt x.cps.toList = x := by cases x; rfl
theorem E_str {x : Str} {kk : Nat} {pos : Pos} : EOk prog w H k env names (.Constant (.str x) kk pos) (fun _ => some (.str x.cps.toList)) := by
  refine ⟨?_⟩
  intro A s base g σ d Q _ F e hQ
  cases e
  exact Constant_str (hQ _ s.heap _ g (.refl F.subG) (rd_str.mpr ⟨_, by rw [txt_cps]⟩))
theorem E_bool {b : Bool} {kk : Nat} {pos : Pos} : EOk prog w H k env names (.Constant (.bool b) kk pos) (fun _ => some (.bool b)) := by
  refine ⟨?_⟩
  intro A s base g σ d Q _ F e hQ
  cases e
  exact wpAny_pure (hQ _ s.heap s.toks g (.refl F.subG) (by rw [Rd]))
noncomputable def getv (i : Nat) (σ : St) : Option PV := match σ[i]? with
  | some (.val d) => some d
  | _ => none

theorem ld_name {M : Model} {A : Around} {E : Value → Shared → Prop} {s : Shared} {x : Str} {sk : SK} {pos : Pos} {v : Value} {m : Str → Option Value} {Q : Value → Shared → Prop}
    (ok : EnvOk env names) (hm : (x, sk) ∈ names) (hn : s.heap.Ns env.locals m) (hv : Holds s.heap m x v sk) (h : Q v s) : wpAny M A (eval (.Name x pos) env) Q E s := by
  refine wpAny_Name ?_ (ok.dbg _ hm)
  cases sk with
  | loc => exact wpAny_loadName_local ok.kind (ok.loc x hm) hn hv h
  | own c =>
    obtain ⟨o, ho, hd⟩ := hv
    exact wpAny_loadName_cell ok.kind (ok.own x c hm).1 (ok.own x c hm).2 ⟨o, ho, hd⟩ h
  | far c =>
    obtain ⟨o, ho, hd⟩ := hv
    obtain ⟨hk, hc⟩ := ok.far x c hm
    rcases hk with hk | ⟨hk, hx⟩
    · exact wpAny_loadName_cell ok.kind hk hc ⟨o, ho, hd⟩ h
    · exact wpAny_loadName_free ok.kind hk hc ⟨o, ho, hd⟩ h hx

theorem E_name {x : Str} {sk : SK} {pos : Pos} (ok : EnvOk env names) (i : Nat) (hi : names[i]? = some (x, sk)) : EOk prog w H k env names (.Name x pos) (getv i) := by
  refine ⟨?_⟩
  intro A s base g σ d Q _ F e hQ
  obtain ⟨m, ad, X⟩ := F
  unfold getv at e
  split at e
  · rename_i d' hs
    cases e
    obtain ⟨v, hv, r⟩ := X.slot i x sk _ hi hs
    exact ld_name ok (List.mem_of_getElem? hi) X.ns hv (hQ v s.heap s.toks g (.refl X.subG) r)
  · cases e

theorem lim_ex : ∃ n : Nat, n = 2 ^ 20 := ⟨_, rfl⟩
noncomputable def lim : Nat := Classical.choose lim_ex
theorem lim_eq : lim = 2 ^ 20 := Classical.choose_spec lim_ex
theorem big_ex : ∃ n : Int, n = 2 ^ 29 := ⟨_, rfl⟩
noncomputable def big : Int := Classical.choose big_ex
theorem big_eq : big = 2 ^ 29 := Classical.choose_spec big_ex
noncomputable def BinOk (prog : Program) (w : World) (op : Operator) (G : PV → PV → Option PV) : Prop :=
  ∀ (A : Around) (s : Shared) (g : View) (x y d : PV) (v u : Value) (Q : Value → Shared → Prop), Room 1 A → Sub g s.heap.get? → Rd g x v → Rd g y u → G x y = some d →
    (∀ r h' tk g', Step s.heap g h' g' → Rd g' d r → Q r { s with heap := h', toks := tk }) → wpAny (model prog w) A (binaryOp op v u) Q NoE s
noncomputable def CmpOk (prog : Program) (w : World) (op : CmpOp) (G : PV → PV → Option Bool) : Prop :=
  ∀ (A : Around) (s : Shared) (g : View) (x y : PV) (b : Bool) (v u : Value) (Q : Value → Shared → Prop), Room 1 A → Sub g s.heap.get? → Rd g x v → Rd g y u → G x y = some b →
    Q (.bool b) s → wpAny (model prog w) A (compareOp op v u) Q NoE s

noncomputable def opf {α : Type} (G : PV → PV → Option α) (fa fb : St → Option PV) (σ : St) : Option α := match fa σ with
  | some x => (match fb σ with
    | some y => G x y
    | none => none)
  | none => none
theorem opf_some {α : Type} {G : PV → PV → Option α} {fa fb : St → Option PV} {σ : St} {d : α} (e : opf G fa fb σ = some d) : ∃ x y, fa σ = some x ∧ fb σ = some y ∧ G x y = some d := by
  unfold opf at e
  split at e
  · rename_i x hx
    split at e
    · rename_i y hy
      exact ⟨x, y, hx, hy, e⟩
    · cases e
  · cases e

theorem E_bin {a b : Expr} {op : Operator} {pos : Pos} {fa fb : St → Option PV} {G : PV → PV → Option PV} (hk : 1 ≤ k) (B : BinOk prog w op G) (ha : EOk prog w H k env names a fa) (hb : EOk prog w H k env names b fb) :
    EOk prog w H k env names (.BinOp a op b pos) (opf G fa fb) := by
  refine ⟨?_⟩
  intro A s base g σ d Q R F e hQ
  obtain ⟨x, y, ex, ey, eG⟩ := opf_some e
  refine wpAny_BinOp (ha.out A s base g σ x _ R F ex fun v h1 t1 g1 T1 r1 => ?_)
  refine hb.out A _ base g1 σ y _ R (F.step T1) ey fun u h2 t2 g2 T2 r2 => ?_
  refine B A _ g2 x y d v u _ (R.less hk) T2.into (Rd.mono T2.sub _ _ r1) r2 eG fun r h3 t3 g3 T3 r3 => ?_
  exact hQ r h3 t3 g3 ((T1.trans T2).trans T3) r3

theorem E_cmp {a b : Expr} {op : CmpOp} {pos : Pos} {fa fb : St → Option PV} {G : PV → PV → Option Bool} (hk : 1 ≤ k) (B : CmpOk prog w op G) (ha : EOk prog w H k env names a fa) (hb : EOk prog w H k env names b fb)
    (hm : behindInMarks op b = false := by with_unfolding_all rfl) : EOk prog w H k env names (.Compare a [op] [b] pos) (fun σ => (opf G fa fb σ).map PV.bool) := by
  refine ⟨?_⟩
  intro A s base g σ d Q R F e hQ
  obtain ⟨b', e', rfl⟩ := Option.map_eq_some_iff.mp e
  obtain ⟨x, y, ex, ey, eG⟩ := opf_some e'
  refine wpAny_Compare1 (ha.out A s base g σ x _ R F ex fun v h1 t1 g1 T1 r1 => ?_) hm
  refine hb.out A _ base g1 σ y _ R (F.step T1) ey fun u h2 t2 g2 T2 r2 => ?_
  exact B A _ g2 x y b' v u _ (R.less hk) T2.into (Rd.mono T2.sub _ _ r1) r2 eG (hQ _ h2 t2 g2 (T1.trans T2) (by rw [Rd]))

theorem T_cmp {a b : Expr} {op : CmpOp} {pos : Pos} {fa fb : St → Option PV} {G : PV → PV → Option Bool} (hk : 1 ≤ k) (B : CmpOk prog w op G) (ha : EOk prog w H k env names a fa) (hb : EOk prog w H k env names b fb)
    (hm : behindInMarks op b = false := by with_unfolding_all rfl) : TOk prog w H k env names (.Compare a [op] [b] pos) (opf G fa fb) := by
  refine ⟨?_⟩
  intro A s base g σ d Q R F e hQ
  obtain ⟨x, y, ex, ey, eG⟩ := opf_some e
  refine wpAny_isTrue_Compare1 (ha.out A s base g σ x _ R F ex fun v h1 t1 g1 T1 r1 => ?_) hm
  refine hb.out A _ base g1 σ y _ R (F.step T1) ey fun u h2 t2 g2 T2 r2 => ?_
  exact B A _ g2 x y d v u _ (R.less hk) T2.into (Rd.mono T2.sub _ _ r1) r2 eG (wpAny_truthy_bool (hQ h2 t2 g2 (T1.trans T2)))

end

section
variable {prog : Program} {w : World}
noncomputable def addV : PV → PV → Option PV
  | .int a, .int b => some (.int (a + b))
  | .str a, .str b => if a.length + b.length ≤ lim then some (.str (a ++ b)) else none
  | .list a, .list b => if a.length + b.length ≤ lim then some (.list (a ++ b)) else none
  | _, _ => none
noncomputable def subV : PV → PV → Option PV
  | .int a, .int b => some (.int (a - b))
  | _, _ => none
theorem natAbs_lt {b : Int} {n : Nat} (h : 0 < b) (h' : b < n) : b.natAbs < n := by omega
noncomputable def small (a : Int) : Bool := decide (-big < a ∧ a < big)
noncomputable def fdivV : PV → PV → Option PV
  | .int a, .int b => if 0 < b ∧ b < big then some (.int (a.fdiv b)) else none
  | _, _ => none
noncomputable def fmodV : PV → PV → Option PV
  | .int a, .int b => if 0 < b ∧ b < big then some (.int (a.fmod b)) else none
  | _, _ => none
noncomputable def rep (n : Nat) : List α → List α := fun xs => (List.replicate n xs).flatten
noncomputable def mulV : PV → PV → Option PV
  | .int a, .int b => if small a || small b then some (.int (a * b)) else none
  | .str a, .int b => if small b && decide (a.length * b.toNat ≤ lim) then some (.str (rep b.toNat a)) else none
  | .list a, .int b => if small b && decide (a.length * b.toNat ≤ lim) then some (.list (rep b.toNat a)) else none
  | _, _ => none

theorem txt_append (a b : List Nat) : txt a ++ txt b = txt (a ++ b) := by
  show (⟨(txt a).cps ++ (txt b).cps⟩ : Str) = _
  simp [txt]
theorem txt_length (a : List Nat) : (txt a).length = a.length := by simp [txt, Str.length]

theorem B_add : BinOk prog w .Add addV := by
  intro A s g x y d v u Q R S rx ry e hQ
  cases x <;> cases y <;> simp only [addV] at e <;> first | (cases e; done) | skip
  · rw [Rd] at rx ry
    obtain ⟨t, rfl⟩ := rx; obtain ⟨t', rfl⟩ := ry
    cases e
    exact PySem.P.add_int (hQ _ s.heap _ g (.refl S) (by rw [Rd]; exact ⟨_, rfl⟩))
  · rename_i a b
    obtain ⟨t, rfl⟩ := rd_str.mp rx; obtain ⟨t', rfl⟩ := rd_str.mp ry
    split at e
    · rename_i hl
      cases e
      refine PyProof.Rows.add_str (fun t' tk => ?_) (by rw [txt_length, txt_length, sizeLine_eq]; rw [lim_eq] at hl; omega)
      rw [txt_append]
      exact hQ _ s.heap tk g (.refl S) (by rw [Rd]; exact ⟨_, rfl⟩)
    · cases e
  · rename_i a b
    obtain ⟨la, va, na, rfl, ga, ra⟩ := rd_list.mp rx
    obtain ⟨lb, vb, nb, rfl, gb, rb⟩ := rd_list.mp ry
    split at e
    · rename_i hl
      cases e
      have ha : IsL s.heap la va.toArray na := S _ _ ga
      have hb : IsL s.heap lb vb.toArray nb := S _ _ gb
      refine PySem.P.add_list ha hb ?_ (by simp only [List.size_toArray, ra.len, rb.len]; rw [sizeLine_eq]; rw [lim_eq] at hl; omega)
      have x := Ext.push s.heap (listObj (va ++ vb) 0)
      have e1 : (va.toArray ++ vb.toArray) = (va ++ vb).toArray := by simp
      rw [e1]
      refine hQ _ _ s.toks (grow g s.heap (s.heap.push (listObj (va ++ vb) 0))) (Step.grow S x) ?_
      exact rd_list.mpr ⟨_, _, 0, rfl, grow_new S fresh_get (Heap.get?_push_size _ rfl), Rds.append (Rds.mono (Step.grow S x).sub _ _ ra) (Rds.mono (Step.grow S x).sub _ _ rb)⟩
    · cases e
theorem B_sub : BinOk prog w .Sub subV := by
  intro A s g x y d v u Q R S rx ry e hQ
  cases x <;> cases y <;> simp only [subV] at e <;> first | (cases e; done) | skip
  obtain ⟨t, rfl⟩ := rd_int.mp rx; obtain ⟨t', rfl⟩ := rd_int.mp ry
  cases e
  exact PySem.P.sub_int (hQ _ s.heap _ g (.refl S) (by rw [Rd]; exact ⟨_, rfl⟩))
theorem B_fmod : BinOk prog w .Mod fmodV := by
  intro A s g x y d v u Q R S rx ry e hQ
  cases x <;> cases y <;> simp only [fmodV] at e <;> first | (cases e; done) | skip
  obtain ⟨t, rfl⟩ := rd_int.mp rx; obtain ⟨t', rfl⟩ := rd_int.mp ry
  split at e
  · rename_i hb
    rw [big_eq] at hb
    cases e
    exact AutoIntOps.mod_1 (by simp; omega) (hQ _ s.heap _ g (.refl S) (by rw [Rd]; exact ⟨_, rfl⟩))
  · cases e
theorem B_fdiv : BinOk prog w .FloorDiv fdivV := by
  intro A s g x y d v u Q R S rx ry e hQ
  cases x <;> cases y <;> simp only [fdivV] at e <;> first | (cases e; done) | skip
  obtain ⟨t, rfl⟩ := rd_int.mp rx; obtain ⟨t', rfl⟩ := rd_int.mp ry
  split at e
  · rename_i hb
    rw [big_eq] at hb
    cases e
    exact PyProof.Rows.floordiv_int (by omega) (hQ _ s.heap _ g (.refl S) (by rw [Rd]; exact ⟨_, rfl⟩)) (Or.inl (PyProof.noPylong_small (natAbs_lt (by omega) (by omega))))
  · cases e

theorem small_bits {a : Int} (h : small a = true) : Builtin.Int.intBits a ≤ 64 := by
  unfold small at h
  have := of_decide_eq_true h
  rw [big_eq] at this
  exact intBits_le_64 (by omega) (by omega)
theorem foldl_rep {α : Type} (n : Nat) (xs : List α) : ∀ (acc : List α), (List.replicate n xs.toArray).foldl (· ++ ·) acc.toArray = (acc ++ rep n xs).toArray := by
  induction n with
  | zero => intro acc; simp [rep]
  | succ n ih =>
    intro acc
    rw [List.replicate_succ, List.foldl_cons]
    have e : acc.toArray ++ xs.toArray = (acc ++ xs).toArray := by simp
    rw [e, ih]
    simp [rep, List.replicate_succ]
theorem rep_nil {α : Type} (n : Nat) : rep n ([] : List α) = [] := by
  induction n with
  | zero => simp [rep]
  | succ n ih =>
    have e : rep (n + 1) ([] : List α) = [] ++ rep n [] := by simp [rep, List.replicate_succ]
    rw [e, ih]; rfl
theorem rep_one {α : Type} (xs : List α) : rep 1 xs = xs := by simp [rep]
theorem mul_txt (a : List Nat) (n : Int) : Txt.mul (txt a) n = txt (rep n.toNat a) := by
  unfold Txt.mul
  by_cases h : n < 1
  · rw [if_pos h]
    have : n.toNat = 0 := by omega
    rw [this]; rfl
  · rw [if_neg h]
    split
    · rename_i hc
      rcases Bool.or_eq_true_iff.mp hc with h1 | h1
      · have : n = 1 := by simpa using h1
        subst this
        show txt a = txt (rep 1 a)
        rw [rep_one]
      · rw [txt_length] at h1
        have : a = [] := by cases a with | nil => rfl | cons => simp at h1
        subst this
        rw [rep_nil]
    · have := foldl_rep n.toNat a []
      rw [List.nil_append] at this
      show (⟨(List.replicate n.toNat (txt a).cps).foldl (· ++ ·) #[]⟩ : Str) = _
      have e : (#[] : Array Nat) = ([] : List Nat).toArray := rfl
      rw [e]
      show (⟨(List.replicate n.toNat a.toArray).foldl (· ++ ·) ([] : List Nat).toArray⟩ : Str) = _
      rw [this]; rfl
theorem Rds.rep {g : View} {ds : List PV} {vs : List Value} (x : Rds g ds vs) : ∀ n, Rds g (rep n ds) (rep n vs)
  | 0 => by simp only [Mine.rep, List.replicate_zero, List.flatten_nil]; exact Rds.nil
  | n + 1 => by
    have e : ∀ {α : Type} (xs : List α), Mine.rep (n + 1) xs = xs ++ Mine.rep n xs := by intro α xs; simp [Mine.rep, List.replicate_succ]
    rw [e, e]
    exact Rds.append x (Rds.rep x n)
theorem B_mul : BinOk prog w .Mult mulV := by
  intro A s g x y d v u Q R S rx ry e hQ
  cases x <;> cases y <;> simp only [mulV] at e <;> first | (cases e; done) | skip
  · rw [Rd] at rx ry
    obtain ⟨t, rfl⟩ := rx; obtain ⟨t', rfl⟩ := ry
    split at e
    · rename_i hs
      cases e
      refine PySem.P.mul_int (hQ _ s.heap _ g (.refl S) (by rw [Rd]; exact ⟨_, rfl⟩)) ?_
      rcases Bool.or_eq_true_iff.mp hs with h | h
      · exact IntMulOk.of_left (small_bits h)
      · exact IntMulOk.of_right (small_bits h)
    · cases e
  · rename_i a b
    obtain ⟨t, rfl⟩ := rd_str.mp rx; obtain ⟨t', rfl⟩ := rd_int.mp ry
    split at e
    · rename_i hs
      cases e
      rw [Bool.and_eq_true] at hs
      have hb := of_decide_eq_true hs.1
      rw [big_eq] at hb
      have hl := of_decide_eq_true hs.2
      refine SB.mul ⟨?_, ?_, ?_⟩ fun t' tk => ?_
      · simp only [Bool.or_eq_false_iff, decide_eq_false_iff_not]; omega
      · intro h1 _ h2
        rw [txt_length] at h2
        have h3 : 1 ≤ b := by omega
        have h4 : (a.length : Int) ≤ (2 ^ 63 - 1) / b := by
          refine (Int.le_ediv_iff_mul_le (by omega)).mpr ?_
          have h5 : ((a.length * b.toNat : Nat) : Int) ≤ (lim : Nat) := Int.ofNat_le.mpr hl
          rw [Int.natCast_mul, Int.toNat_of_nonneg (by omega)] at h5
          rw [lim_eq] at h5
          omega
        omega
      · intro _ _
        rw [txt_length]
        simp only [Builtin.Str.tooLong, sizeLine_eq, decide_eq_false_iff_not]
        rw [lim_eq] at hl
        omega
      · rw [mul_txt]
        exact hQ _ s.heap tk g (.refl S) (by rw [Rd]; exact ⟨_, rfl⟩)
    · cases e
  · rename_i a b
    obtain ⟨l, vs, n, rfl, ga, ra⟩ := rd_list.mp rx
    obtain ⟨t', rfl⟩ := rd_int.mp ry
    split at e
    · rename_i hs
      cases e
      rw [Bool.and_eq_true] at hs
      have hb := of_decide_eq_true hs.1
      rw [big_eq] at hb
      have hl := of_decide_eq_true hs.2
      have ha : s.heap.get? l = some (listObj vs n) := S _ _ ga
      have hsz : vs.length * b.toNat ≤ 2 ^ 20 := by
        rw [ra.len]; rw [lim_eq] at hl; exact hl
      refine wpAny_binaryOp_repeat_ref (T := "list") (U := "int") (by decide) ⟨_, ha, rfl⟩ (fun s' => typeIs_int s' b t') noFill_list_mul F.fills_int_mul F.slot_int_rmul repeat_list F.slot_int_index.lookup
        (call_meets F.slot_int_rmul (typeIs_int s b t') F.entry_int_rmul (F.args_int_rmul_2 _ _) (int___rmul___int_list b t' l vs.toArray n)
          ⟨ha, rfl, ⟨_, ha, rfl⟩, call_meets F.slot_list_mul ⟨_, ha, rfl⟩ F.entry_list_mul (F.args_list_mul_2 _ _)
            (AutoListH.list___mul___list_int_3 l vs.toArray n b t' (by simp [Builtin.List.listFitsIndex]; omega) (by rw [List.size_toArray]; omega) (by simp [Builtin.List.listTooLong, sizeLine]; omega)) ⟨ha, ?_⟩⟩)
      have e1 : List.foldl (fun x1 x2 => x1 ++ x2) #[] (List.replicate (if vs.toArray.isEmpty = true then 0 else b.toNat) vs.toArray) = (rep b.toNat vs).toArray := by
        have := foldl_rep (if vs.toArray.isEmpty = true then 0 else b.toNat) vs []
        rw [List.nil_append] at this
        have e0 : (#[] : Array Value) = ([] : List Value).toArray := rfl
        rw [e0, this]
        split
        · rename_i hv
          have : vs = [] := by simpa using hv
          subst this
          rw [rep_nil, rep_nil]
        · rfl
      rw [e1]
      have x := Ext.push s.heap (listObj (rep b.toNat vs) 0)
      refine hQ _ _ s.toks (grow g s.heap (s.heap.push (listObj (rep b.toNat vs) 0))) (Step.grow S x) ?_
      exact rd_list.mpr ⟨_, _, 0, rfl, grow_new S fresh_get (Heap.get?_push_size _ rfl), Rds.mono (Step.grow S x).sub _ _ (ra.rep _)⟩
    · cases e

noncomputable def ltV : PV → PV → Option Bool
  | .int a, .int b => some (decide (a < b))
  | _, _ => none
noncomputable def leV : PV → PV → Option Bool
  | .int a, .int b => some (decide (a ≤ b))
  | _, _ => none
noncomputable def geV : PV → PV → Option Bool
  | .int a, .int b => some (decide (b ≤ a))
  | _, _ => none
theorem C_lt : CmpOk prog w .Lt ltV := by
  intro A s g x y b v u Q R S rx ry e hQ
  cases x <;> cases y <;> simp only [ltV] at e <;> first | (cases e; done) | skip
  obtain ⟨t, rfl⟩ := rd_int.mp rx; obtain ⟨t', rfl⟩ := rd_int.mp ry
  cases e
  exact PySem.P.lt_int hQ
theorem C_le : CmpOk prog w .LtE leV := by
  intro A s g x y b v u Q R S rx ry e hQ
  cases x <;> cases y <;> simp only [leV] at e <;> first | (cases e; done) | skip
  obtain ⟨t, rfl⟩ := rd_int.mp rx; obtain ⟨t', rfl⟩ := rd_int.mp ry
  cases e
  exact PySem.P.le_int hQ
theorem C_ge : CmpOk prog w .GtE geV := by
  intro A s g x y b v u Q R S rx ry e hQ
  cases x <;> cases y <;> simp only [geV] at e <;> first | (cases e; done) | skip
  obtain ⟨t, rfl⟩ := rd_int.mp rx; obtain ⟨t', rfl⟩ := rd_int.mp ry
  cases e
  exact PySem.P.ge_int hQ
end
end
end Mine
end
section
open PySem PySem.W PySem.Calls PyProof.Rows
set_option Elab.async false
set_option maxRecDepth 100000
namespace Mine
noncomputable section

mutual
noncomputable def toPy : PV → PyData
  | .none => .none
  | .bool b => .bool b
  | .int i => .int i
  | .str s => .str (txt s)
  | .tup xs => .tuple (toPys xs)
  | .list xs => .list (toPys xs)
  | .inst _ _ _ => .none
noncomputable def toPys : List PV → List PyData
  | [] => []
  | x :: xs => toPy x :: toPys xs
end
mutual
noncomputable def eqOk : PV → Nat → Bool
  | .none, _ => true
  | .bool _, _ => true
  | .int _, _ => true
  | .str _, _ => false
  | .tup xs, n => n != 0 && eqOks xs (n - 1)
  | .list xs, n => n != 0 && eqOks xs (n - 1)
  | .inst _ _ _, _ => false
noncomputable def eqOks : List PV → Nat → Bool
  | [], _ => true
  | x :: xs, n => eqOk x n && eqOks xs n
end
mutual
theorem eqOk_lay : ∀ (d : PV) (n : Nat), eqOk d n = true → (toPy d).canLay0 = true ∧ (toPy d).depth ≤ n
  | .none, n, _ => by rw [toPy]; simp [PyData.canLay0, PyData.depth]
  | .bool _, n, _ => by rw [toPy]; simp [PyData.canLay0, PyData.depth]
  | .int _, n, _ => by rw [toPy]; simp [PyData.canLay0, PyData.depth]
  | .str _, n, h => by rw [eqOk] at h; cases h
  | .inst _ _ _, n, h => by rw [eqOk] at h; cases h
  | .tup xs, n, h => by
    rw [eqOk, Bool.and_eq_true] at h
    have := eqOks_lay xs _ h.2
    rw [toPy]
    have hn : n ≠ 0 := by simpa using h.1
    simp only [PyData.canLay0, PyData.depth, this.1, true_and]
    have := this.2
    omega
  | .list xs, n, h => by
    rw [eqOk, Bool.and_eq_true] at h
    have := eqOks_lay xs _ h.2
    rw [toPy]
    have hn : n ≠ 0 := by simpa using h.1
    simp only [PyData.canLay0, PyData.depth, this.1, true_and]
    have := this.2
    omega
theorem eqOks_lay : ∀ (ds : List PV) (n : Nat), eqOks ds n = true → PyData.canLayAll0 (toPys ds) = true ∧ PyData.depthAll (toPys ds) ≤ n
  | [], n, _ => by rw [toPys]; simp [PyData.canLayAll0, PyData.depthAll]
  | x :: xs, n, h => by
    rw [eqOks, Bool.and_eq_true] at h
    have a := eqOk_lay x n h.1
    have b := eqOks_lay xs n h.2
    rw [toPys]
    simp only [PyData.canLayAll0, PyData.depthAll, a.1, b.1, Bool.and_self, true_and]
    have := a.2; have := b.2
    omega
end
mutual
theorem reads_of {g : View} {h : Heap} (S : Sub g h.get?) : ∀ (d : PV) (n : Nat) (v : Value), eqOk d n = true → Rd g d v → ∃ as, Reads h v (toPy d) as
  | .none, n, v, _, r => by rw [rd_none.mp r, toPy]; exact ⟨_, .none⟩
  | .bool b, n, v, _, r => by rw [rd_bool.mp r, toPy]; exact ⟨_, .bool b⟩
  | .int i, n, v, _, r => by obtain ⟨t, rfl⟩ := rd_int.mp r; rw [toPy]; exact ⟨_, .int i t⟩
  | .str _, n, v, h, r => by rw [eqOk] at h; cases h
  | .inst _ _ _, n, v, h, r => by rw [eqOk] at h; cases h
  | .tup xs, n, v, e, r => by
    obtain ⟨a, vs, k, rfl, ga, ra⟩ := rd_tup.mp r
    rw [eqOk, Bool.and_eq_true] at e
    obtain ⟨as, q⟩ := readss_of S xs _ vs e.2 ra
    rw [toPy]
    exact ⟨_, .tuple (S _ _ ga) rfl rfl q⟩
  | .list xs, n, v, e, r => by
    obtain ⟨a, vs, k, rfl, ga, ra⟩ := rd_list.mp r
    rw [eqOk, Bool.and_eq_true] at e
    obtain ⟨as, q⟩ := readss_of S xs _ vs e.2 ra
    rw [toPy]
    exact ⟨_, .list (S _ _ ga) rfl rfl q⟩
theorem readss_of {g : View} {h : Heap} (S : Sub g h.get?) : ∀ (ds : List PV) (n : Nat) (vs : List Value), eqOks ds n = true → Rds g ds vs → ∃ as, ReadsAll h vs (toPys ds) as
  | [], n, vs, _, r => by rw [Rds] at r; subst r; rw [toPys]; exact ⟨_, .nil⟩
  | x :: xs, n, vs, e, r => by
    rw [Rds] at r
    obtain ⟨v, vs', rfl, r1, r2⟩ := r
    rw [eqOks, Bool.and_eq_true] at e
    obtain ⟨as, q⟩ := reads_of S x n v e.1 r1
    obtain ⟨bs, p⟩ := readss_of S xs n vs' e.2 r2
    rw [toPys]
    exact ⟨_, .cons q p⟩
end

noncomputable def eqV : PV → PV → Option Bool
  | .str a, .str b => some (decide (a = b))
  | x, y => if eqOk x 8 && eqOk y 8 then some (PyData.eqv (toPy x) (toPy y)) else none
noncomputable def neV (x y : PV) : Option Bool := (eqV x y).map not

theorem txt_beq (a b : List Nat) : (txt a == txt b) = decide (a = b) := by
  by_cases h : a = b
  · subst h; simp
  · have : txt a ≠ txt b := fun e => h (by
      have := congrArg (fun s : Str => s.cps.toList) e
      simpa [txt] using this)
    rw [beq_eq_false_iff_ne.mpr this]; simp [h]
section
variable {prog : Program} {w : World}
theorem eq_data {A : Around} {s : Shared} {g : View} {x y : PV} {v u : Value} {Q : Value → Shared → Prop} (R : Room 1 A) (S : Sub g s.heap.get?) (rx : Rd g x v) (ry : Rd g y u) (e : (eqOk x 8 && eqOk y 8) = true)
    (hQ : Q (.bool (PyData.eqv (toPy x) (toPy y))) s) : wpAny (model prog w) A (compareOp .Eq v u) Q NoE s := by
  rw [Bool.and_eq_true] at e
  obtain ⟨as, p⟩ := reads_of S x 8 v e.1 rx
  obtain ⟨bs, q⟩ := reads_of S y 8 u e.2 ry
  obtain ⟨c1, d1⟩ := eqOk_lay x 8 e.1
  obtain ⟨c2, d2⟩ := eqOk_lay y 8 e.2
  exact SeqAt.compareEq_reads p q c1 c2 (by have := R.units; omega) hQ
theorem ne_data {A : Around} {s : Shared} {g : View} {x y : PV} {v u : Value} {Q : Value → Shared → Prop} (R : Room 1 A) (S : Sub g s.heap.get?) (rx : Rd g x v) (ry : Rd g y u) (e : (eqOk x 8 && eqOk y 8) = true)
    (hQ : Q (.bool (!PyData.eqv (toPy x) (toPy y))) s) : wpAny (model prog w) A (compareOp .NotEq v u) Q NoE s := by
  rw [Bool.and_eq_true] at e
  obtain ⟨as, p⟩ := reads_of S x 8 v e.1 rx
  obtain ⟨bs, q⟩ := reads_of S y 8 u e.2 ry
  obtain ⟨c1, d1⟩ := eqOk_lay x 8 e.1
  obtain ⟨c2, d2⟩ := eqOk_lay y 8 e.2
  exact SeqAt.compareNe_reads p q c1 c2 (by have := R.units; omega) hQ
theorem eqV_cases {x y : PV} {b : Bool} (e : eqV x y = some b) : (∃ a c, x = .str a ∧ y = .str c ∧ b = decide (a = c)) ∨ ((eqOk x 8 && eqOk y 8) = true ∧ b = PyData.eqv (toPy x) (toPy y)) := by
  unfold eqV at e
  split at e
  · cases e; exact .inl ⟨_, _, rfl, rfl, rfl⟩
  · by_cases h : (eqOk x 8 && eqOk y 8) = true
    · rw [if_pos h] at e; cases e; exact .inr ⟨h, rfl⟩
    · rw [if_neg h] at e; cases e
theorem C_eq : CmpOk prog w .Eq eqV := by
  intro A s g x y b v u Q R S rx ry e hQ
  rcases eqV_cases e with ⟨a, c, rfl, rfl, rfl⟩ | ⟨h, rfl⟩
  · obtain ⟨t, rfl⟩ := rd_str.mp rx; obtain ⟨t', rfl⟩ := rd_str.mp ry
    refine PyProof.Rows.eq_str ?_
    rw [txt_beq]; exact hQ
  · exact eq_data R S rx ry h hQ
theorem C_ne : CmpOk prog w .NotEq neV := by
  intro A s g x y b v u Q R S rx ry e hQ
  obtain ⟨b', e2, rfl⟩ := Option.map_eq_some_iff.mp e
  rcases eqV_cases e2 with ⟨a, c, rfl, rfl, rfl⟩ | ⟨h, rfl⟩
  · obtain ⟨t, rfl⟩ := rd_str.mp rx; obtain ⟨t', rfl⟩ := rd_str.mp ry
    refine PyProof.Rows.ne_str ?_
    show Q (.bool (!(txt a == txt c))) s
    rw [txt_beq]; exact hQ
  · exact ne_data R S rx ry h hQ
end

section
variable {prog : Program} {w : World} {H : View} {k : Nat} {env : Env} {names : Names}

noncomputable def truthV : PV → Option Bool
  | .bool b => some b
  | _ => none
theorem T_val {e : Expr} {f : St → Option PV} (he : EOk prog w H k env names e f)
    (hw : ∀ (M : Model) (A : Around) (E : Value → Shared → Prop) (Q : Bool → Shared → Prop) (s : Shared), wpAny M A (eval e env) (fun v s' => wpAny M A (truthy v) Q E s') E s → wpAny M A (isTrue e env (eval e env)) Q E s) :
    TOk prog w H k env names e (fun σ => (f σ).bind truthV) := by
  refine ⟨?_⟩
  intro A s base g σ b Q R F e' hQ
  obtain ⟨d, ed, eb⟩ := Option.bind_eq_some_iff.mp e'
  refine hw _ _ _ _ _ (he.out A s base g σ d _ R F ed fun v h1 t1 g1 T1 r1 => ?_)
  cases d <;> simp only [truthV] at eb <;> first | (cases eb; done) | skip
  cases eb
  rw [rd_bool.mp r1]
  exact wpAny_truthy_bool (hQ h1 t1 g1 T1)

theorem T_and {a b : Expr} {pos : Pos} {fa fb : St → Option Bool} (ha : TOk prog w H k env names a fa) (hb : TOk prog w H k env names b fb) :
    TOk prog w H k env names (.BoolOp .And [a, b] pos) (fun σ => match fa σ with | some true => fb σ | some false => some false | none => none) := by
  refine ⟨?_⟩
  intro A s base g σ d Q R F e hQ
  dsimp only at e
  cases hc : fa σ with
  | none => rw [hc] at e; cases e
  | some c =>
    rw [hc] at e
    refine isTrue_and (ha.out A s base g σ c _ R F hc fun h1 t1 g1 T1 => ?_)
    cases c with
    | true => exact isTrue_and (hb.out A _ base g1 σ d _ R (F.step T1) e fun h2 t2 g2 T2 => by
        cases d with
        | true => exact isTrue_and_nil (hQ h2 t2 g2 (T1.trans T2))
        | false => exact hQ h2 t2 g2 (T1.trans T2))
    | false => cases e; exact hQ h1 t1 g1 T1
theorem T_or {a b : Expr} {pos : Pos} {fa fb : St → Option Bool} (ha : TOk prog w H k env names a fa) (hb : TOk prog w H k env names b fb) :
    TOk prog w H k env names (.BoolOp .Or [a, b] pos) (fun σ => match fa σ with | some false => fb σ | some true => some true | none => none) := by
  refine ⟨?_⟩
  intro A s base g σ d Q R F e hQ
  dsimp only at e
  cases hc : fa σ with
  | none => rw [hc] at e; cases e
  | some c =>
    rw [hc] at e
    refine isTrue_or (ha.out A s base g σ c _ R F hc fun h1 t1 g1 T1 => ?_)
    cases c with
    | false => exact isTrue_or (hb.out A _ base g1 σ d _ R (F.step T1) e fun h2 t2 g2 T2 => by
        cases d with
        | false => exact isTrue_or_nil (hQ h2 t2 g2 (T1.trans T2))
        | true => exact hQ h2 t2 g2 (T1.trans T2))
    | true => cases e; exact hQ h1 t1 g1 T1
theorem E_and {a b : Expr} {pos : Pos} {fa fb : St → Option PV} (ha : EOk prog w H k env names a fa) (hb : EOk prog w H k env names b fb) :
    EOk prog w H k env names (.BoolOp .And [a, b] pos) (fun σ => match fa σ with | some (.bool true) => fb σ | some (.bool false) => some (.bool false) | _ => none) := by
  refine ⟨?_⟩
  intro A s base g σ d Q R F e hQ
  dsimp only at e
  split at e
  · rename_i ea
    refine BoolOp_and (ha.out A s base g σ _ _ R F ea fun v h1 t1 g1 T1 r1 => ?_)
    rw [rd_bool.mp r1]
    refine wpAny_truthy_bool ?_
    exact hb.out A _ base g1 σ d _ R (F.step T1) e fun v h2 t2 g2 T2 r2 => hQ v h2 t2 g2 (T1.trans T2) r2
  · rename_i ea
    cases e
    refine BoolOp_and (ha.out A s base g σ _ _ R F ea fun v h1 t1 g1 T1 r1 => ?_)
    rw [rd_bool.mp r1]
    exact wpAny_truthy_bool (hQ _ h1 t1 g1 T1 (rd_bool.mpr rfl))
  · cases e
theorem E_neg {a : Expr} {pos : Pos} {fa : St → Option PV} (ha : EOk prog w H k env names a fa) :
    EOk prog w H k env names (.UnaryOp .USub a pos) (fun σ => match fa σ with | some (.int i) => some (.int (-i)) | _ => none) := by
  refine ⟨?_⟩
  intro A s base g σ d Q R F e hQ
  dsimp only at e
  split at e
  · rename_i i ea
    cases e
    refine PySem.wpAny_UnaryOp (ha.out A s base g σ _ _ R F ea fun v h1 t1 g1 T1 r1 => ?_)
    obtain ⟨t, rfl⟩ := rd_int.mp r1
    exact PySem.P.neg_int (hQ _ h1 _ g1 T1 (rd_int.mpr ⟨_, rfl⟩))
  · cases e

noncomputable def AOk (prog : Program) (w : World) (H : View) (k : Nat) (env : Env) (names : Names) (es : List Expr) (f : St → Option (List PV)) : Prop := Box (
  ∀ (A : Around) (pos : Pos) (s : Shared) (base g : View) (σ : St) (ds : List PV) (Q : List Value → Shared → Prop), Room k A → FRel H env.locals names base σ g s.heap → f σ = some ds →
    (∀ vs h' tk g', Step s.heap g h' g' → Rds g' ds vs → Q vs { s with heap := h', toks := tk }) → wpAny (model prog w) A (spliced (backTo pos (starEach es env))) Q NoE s)
theorem A_nil : AOk prog w H k env names [] (fun _ => some []) := by
  refine ⟨?_⟩
  intro A pos s base g σ ds Q R F e hQ
  cases e
  exact spliced_nil (hQ [] s.heap s.toks g (.refl F.subG) Rds.nil)
noncomputable def consf (fa : St → Option PV) (fs : St → Option (List PV)) (σ : St) : Option (List PV) := match fa σ with
  | some d => (match fs σ with
    | some ds => some (d :: ds)
    | none => none)
  | none => none
noncomputable def notStar : Expr → Bool
  | .Starred .. => false
  | _ => true
theorem star_cons {a : Expr} {es : List Expr} (h : notStar a = true) : starEach (a :: es) env = (false, eval a env) :: starEach es env := by
  cases a <;> first | rfl | cases h
theorem A_cons {a : Expr} {es : List Expr} {fa : St → Option PV} {fs : St → Option (List PV)} (ha : EOk prog w H k env names a fa) (hs : AOk prog w H k env names es fs)
    (hst : notStar a = true := by rfl) : AOk prog w H k env names (a :: es) (consf fa fs) := by
  refine ⟨?_⟩
  intro A pos s base g σ ds Q R F e hQ
  unfold consf at e
  split at e
  · rename_i d ed
    split at e
    · rename_i ds' eds
      cases e
      rw [star_cons hst]
      refine spliced_cons ?_
      show wpAny _ _ (eval a env) _ _ _
      refine ha.out A s base g σ d _ R F ed fun v h1 t1 g1 T1 r1 => ?_
      refine hs.out A pos _ base g1 σ ds' _ R (F.step T1) eds fun vs h2 t2 g2 T2 r2 => ?_
      exact hQ _ h2 t2 g2 (T1.trans T2) (Rds.cons (Rd.mono T2.sub _ _ r1) r2)
    · cases e
  · cases e
theorem E_tuple {es : List Expr} {kk : Nat} {pos : Pos} {f : St → Option (List PV)} (hs : AOk prog w H k env names es f) :
    EOk prog w H k env names (.Tuple es kk pos) (fun σ => (f σ).bind fun ds => if ds.length ≤ lim then some (.tup ds) else none) := by
  refine ⟨?_⟩
  intro A s base g σ d Q R F e hQ
  obtain ⟨ds, eds, e⟩ := Option.bind_eq_some_iff.mp e
  split at e
  · rename_i hl
    cases e
    refine Tuple_ (hs.out A pos s base g σ ds _ R F eds fun vs h1 t1 g1 T1 r1 => ?_)
    refine wpAny_newObj_type ?_ (by show vs.toArray.size ≤ sizeLine; rw [List.size_toArray, r1.len, sizeLine_eq]; rw [lim_eq] at hl; omega)
    have x := Ext.push h1 (tupObj vs 0)
    refine hQ _ _ t1 (grow g1 h1 (h1.push (tupObj vs 0))) (T1.trans (Step.grow T1.into x)) ?_
    exact rd_tup.mpr ⟨_, _, 0, rfl, grow_new T1.into fresh_get (Heap.get?_push_size _ rfl), Rds.mono (Step.grow T1.into x).sub _ _ r1⟩
  · cases e
theorem L_list {es : List Expr} {pos : Pos} {f : St → Option (List PV)} (hs : AOk prog w H k env names es f) :
    LOk prog w H k env names (.List es pos) (fun σ => (f σ).bind fun ds => if ds.length ≤ lim then some ds else none) := by
  refine ⟨?_⟩
  intro A s base g σ d Q R F e hQ
  obtain ⟨ds, eds, e⟩ := Option.bind_eq_some_iff.mp e
  split at e
  · rename_i hl
    cases e
    refine List_ (hs.out A pos s base g σ d _ R F eds fun vs h1 t1 g1 T1 r1 => ?_)
    refine wpAny_newObj_type ?_ (by show vs.toArray.size ≤ sizeLine; rw [List.size_toArray, r1.len, sizeLine_eq]; rw [lim_eq] at hl; omega)
    have x := Ext.push h1 (listObj vs 0)
    have n1 : s.heap.get? h1.objs.size = none := by
      cases q : s.heap.get? h1.objs.size with
      | none => rfl
      | some o => exact absurd (Heap.lt_size (T1.ext _ _ q)) (Nat.lt_irrefl _)
    have n2 : g1 h1.objs.size = none := by
      cases q : g1 h1.objs.size with
      | none => rfl
      | some o => exact absurd (Heap.lt_size (T1.into _ _ q)) (Nat.lt_irrefl _)
    exact hQ _ vs 0 _ t1 g1 (T1.trans (Step.keep T1.into x)) n1 n2 (Heap.get?_push_size _ rfl) r1
  · cases e
theorem E_new {e : Expr} {f : St → Option (List PV)} (h : LOk prog w H k env names e f) : EOk prog w H k env names e (fun σ => (f σ).map PV.list) := by
  refine ⟨?_⟩
  intro A s base g σ d Q R F e' hQ
  obtain ⟨xs, ex, rfl⟩ := Option.map_eq_some_iff.mp e'
  refine h.out A s base g σ xs _ R F ex fun a vs n h1 t1 g1 T1 na ga ha rs => ?_
  have S : Sub g1 (put g1 a (listObj vs n)) := Sub.put ga
  refine hQ _ h1 t1 (put g1 a (listObj vs n)) ⟨T1.ext, T1.sub.trans S, fun b o q => ?_, fun b o q n => ?_⟩ (rd_list.mpr ⟨a, vs, n, rfl, put_self .., Rds.mono S _ _ rs⟩)
  · unfold put at q
    by_cases hb : b = a
    · subst hb; rw [if_pos rfl] at q; cases q; exact ha
    · rw [if_neg hb] at q; exact T1.into _ _ q
  · unfold put
    by_cases hb : b = a
    · subst hb; rw [na] at q; cases q
    · rw [if_neg hb]; exact T1.fresh _ _ q n
end
end
end Mine
end
section
open PySem PySem.W PySem.Calls PyProof.Rows
set_option Elab.async false
set_option maxRecDepth 100000
namespace Mine
noncomputable section
section
variable {prog : Program} {w : World} {H : View} {k : Nat} {env : Env} {names : Names}

noncomputable def PkOk (prog : Program) (w : World) (H : View) (k : Nat) (env : Env) (names : Names) (e : Expr) (f : St → Option (List PV)) : Prop := Box (
  ∀ (A : Around) (s : Shared) (base g : View) (σ : St) (xs : List PV) (Q : Value → Shared → Prop), Room k A → FRel H env.locals names base σ g s.heap → f σ = some xs →
    (∀ a vs n h' tk g', Step s.heap g h' g' → h'.get? a = some (listObj vs n) → Rds g' xs vs → Q (.ref a) { s with heap := h', toks := tk }) → wpAny (model prog w) A (eval e env) Q NoE s)
noncomputable def getl (i : Nat) (σ : St) : Option (List PV) := match σ[i]? with
  | some (.own xs) => some xs
  | some (.val (.list xs)) => some xs
  | _ => none
theorem P_name {x : Str} {sk : SK} {pos : Pos} (ok : EnvOk env names) (i : Nat) (hi : names[i]? = some (x, sk)) : PkOk prog w H k env names (.Name x pos) (getl i) := by
  refine ⟨?_⟩
  intro A s base g σ xs Q _ F e hQ
  obtain ⟨m, ad, X⟩ := F
  unfold getl at e
  split at e
  · rename_i ys hs
    cases e
    obtain ⟨hk, hm, hb, hg, vs, n, ho, r⟩ := X.slot i x sk _ hi hs
    subst hk
    exact ld_name ok (List.mem_of_getElem? hi) X.ns (show Holds s.heap m x (.ref (ad i)) .loc from hm) (hQ _ vs n s.heap s.toks g (.refl X.subG) ho r)
  · rename_i ys hs
    cases e
    obtain ⟨v, hv, r⟩ := X.slot i x sk _ hi hs
    obtain ⟨a, vs, n, rfl, ga, rs⟩ := rd_list.mp r
    exact ld_name ok (List.mem_of_getElem? hi) X.ns hv (hQ a vs n s.heap s.toks g (.refl X.subG) (X.subG _ _ ga) rs)
  · cases e
noncomputable def asList : PV → Option (List PV)
  | .list xs => some xs
  | _ => none
theorem P_val {e : Expr} {f : St → Option PV} (h : EOk prog w H k env names e f) : PkOk prog w H k env names e (fun σ => (f σ).bind asList) := by
  refine ⟨?_⟩
  intro A s base g σ xs Q R F e' hQ
  obtain ⟨d, ed, e2⟩ := Option.bind_eq_some_iff.mp e'
  cases d <;> simp only [asList] at e2 <;> first | (cases e2; done) | skip
  cases e2
  refine h.out A s base g σ _ _ R F ed fun v h1 t1 g1 T1 r1 => ?_
  obtain ⟨a, vs, n, rfl, ga, rs⟩ := rd_list.mp r1
  exact hQ a vs n h1 t1 g1 T1 (T1.into _ _ ga) rs
noncomputable def addl (fa fb : St → Option (List PV)) (σ : St) : Option (List PV) := match fa σ with
  | some x => (match fb σ with
    | some y => if x.length + y.length ≤ lim then some (x ++ y) else none
    | none => none)
  | none => none
theorem none_at {h h' : Heap} (e : Ext h h') : h.get? h'.objs.size = none := by
  cases q : h.get? h'.objs.size with
  | none => rfl
  | some o => exact absurd (Heap.lt_size (e _ _ q)) (Nat.lt_irrefl _)
theorem view_at {g : View} {h : Heap} (S : Sub g h.get?) : g h.objs.size = none := by
  cases q : g h.objs.size with
  | none => rfl
  | some o => exact absurd (Heap.lt_size (S _ _ q)) (Nat.lt_irrefl _)
theorem L_add {a b : Expr} {pos : Pos} {fa fb : St → Option (List PV)} (ha : PkOk prog w H k env names a fa) (hb : PkOk prog w H k env names b fb) :
    LOk prog w H k env names (.BinOp a .Add b pos) (addl fa fb) := by
  refine ⟨?_⟩
  intro A s base g σ xs Q R F e hQ
  unfold addl at e
  split at e
  · rename_i x ex
    split at e
    · rename_i y ey
      split at e
      · rename_i hl
        cases e
        refine wpAny_BinOp (ha.out A s base g σ x _ R F ex fun la va na h1 t1 g1 T1 o1 r1 => ?_)
        refine hb.out A _ base g1 σ y _ R (F.step T1) ey fun lb vb nb h2 t2 g2 T2 o2 r2 => ?_
        have T := T1.trans T2
        have i1 : IsL h2 la va.toArray na := T2.ext _ _ o1
        have i2 : IsL h2 lb vb.toArray nb := o2
        refine PySem.P.add_list (s := { s with heap := h2, toks := t2 }) i1 i2 ?_ (by simp only [List.size_toArray, r1.len, r2.len]; rw [sizeLine_eq]; rw [lim_eq] at hl; omega)
        have e1 : (va.toArray ++ vb.toArray) = (va ++ vb).toArray := by simp
        rw [e1]
        exact hQ _ (va ++ vb) 0 _ t2 g2 (T.trans (Step.keep T.into (Ext.push h2 (listObj (va ++ vb) 0)))) (none_at T.ext) (view_at T.into) (Heap.get?_push_size _ rfl) (Rds.append (Rds.mono T2.sub _ _ r1) r2)
      · cases e
    · cases e
  · cases e

noncomputable def idxV (xs : List PV) (i : Int) : Option PV := if 0 ≤ i ∧ i < big then xs[i.toNat]? else if -(xs.length : Int) ≤ i ∧ i < 0 ∧ -big ≤ i then xs[(i + xs.length).toNat]? else none
theorem idx_get {xs : List PV} {vs : List Value} {g : View} {i : Int} {d : PV} (r : Rds g xs vs) (e : idxV xs i = some d) :
    (0 ≤ i ∧ i < big ∧ ∃ v, vs[i.toNat]? = some v ∧ Rd g d v) ∨ (i < 0 ∧ -(vs.length : Int) ≤ i ∧ -big ≤ i ∧ ∃ v, vs[(i + vs.length).toNat]? = some v ∧ Rd g d v) := by
  unfold idxV at e
  split at e
  · rename_i h
    exact .inl ⟨h.1, h.2, r.get e⟩
  · split at e
    · rename_i h
      refine .inr ⟨h.2.1, by rw [r.len]; exact h.1, h.2.2, ?_⟩
      rw [r.len]; exact r.get e
    · cases e
noncomputable def idxf (fa : St → Option (List PV)) (fi : St → Option PV) (σ : St) : Option PV := match fa σ with
  | some xs => (match fi σ with
    | some (.int i) => idxV xs i
    | _ => none)
  | none => none
theorem E_idx {a i : Expr} {pos : Pos} {fa : St → Option (List PV)} {fi : St → Option PV} (ha : PkOk prog w H k env names a fa) (hi : EOk prog w H k env names i fi)
    (hs : ∀ o v, subscripted i false o v = operate [o, v] (getItem o v) := by intro _ _; rfl) : EOk prog w H k env names (.Subscript a i pos) (idxf fa fi) := by
  refine ⟨?_⟩
  intro A s base g σ d Q R F e hQ
  unfold idxf at e
  split at e
  · rename_i xs ex
    split at e
    · rename_i j ej
      refine Subscript_ (ha.out A s base g σ xs _ R F ex fun l vs n h1 t1 g1 T1 o1 r1 => ?_)
      refine hi.out A _ base g1 σ _ _ R (F.step T1) ej fun u h2 t2 g2 T2 r2 => ?_
      obtain ⟨t, rfl⟩ := rd_int.mp r2
      have hl : ({ s with heap := h2, toks := t2 } : Shared).heap.IsList l vs.toArray := ⟨_, T2.ext _ _ o1, rfl, n, rfl⟩
      refine tail_any hl.typeIs slot_list_getitem.lookup ?_ (hs _ _)
      have r1' := Rds.mono T2.sub _ _ r1
      rcases idx_get r1' e with ⟨h0, h9, v, hv, rv⟩ | ⟨h0, h8, h9, v, hv, rv⟩ <;> rw [big_eq] at h9
      · exact wpAny_getItem_list hl h0 (by omega) (by simpa using hv) (hQ v h2 t2 g2 (T1.trans T2) rv)
      · exact wpAny_getItem_list_neg hl h0 (by simpa using h8) (by omega) (by simpa using hv) (hQ v h2 t2 g2 (T1.trans T2) rv)
    · cases e
  · cases e
noncomputable def asTup : PV → Option (List PV)
  | .tup xs => some xs
  | _ => none
theorem E_idxT {a i : Expr} {pos : Pos} {fa fi : St → Option PV} (ha : EOk prog w H k env names a fa) (hi : EOk prog w H k env names i fi)
    (hs : ∀ o v, subscripted i false o v = operate [o, v] (getItem o v) := by intro _ _; rfl) : EOk prog w H k env names (.Subscript a i pos) (idxf (fun σ => (fa σ).bind asTup) fi) := by
  refine ⟨?_⟩
  intro A s base g σ d Q R F e hQ
  unfold idxf at e
  split at e
  · rename_i xs ex
    split at e
    · rename_i j ej
      obtain ⟨dt, edt, e2⟩ := Option.bind_eq_some_iff.mp ex
      cases dt <;> simp only [asTup] at e2 <;> first | (cases e2; done) | skip
      cases e2
      refine Subscript_ (ha.out A s base g σ _ _ R F edt fun u0 h1 t1 g1 T1 r1 => ?_)
      obtain ⟨l, vs, n, rfl, gl, r1⟩ := rd_tup.mp r1
      refine hi.out A _ base g1 σ _ _ R (F.step T1) ej fun u h2 t2 g2 T2 r2 => ?_
      obtain ⟨t, rfl⟩ := rd_int.mp r2
      have o1 := T2.into _ _ (T2.sub _ _ gl)
      have hl : IsTup h2 l vs.toArray := ⟨_, o1, rfl, n, rfl⟩
      have r1' := Rds.mono T2.sub _ _ r1
      rcases idx_get r1' e with ⟨h0, h9, v, hv, rv⟩ | ⟨h0, h8, h9, v, hv, rv⟩ <;> rw [big_eq] at h9
      · exact item_tupleT (s := { s with heap := h2, toks := t2 }) hl (by omega) (by omega) (seqIndex_of h0 (by have := (List.getElem?_eq_some_iff.mp hv).1; omega)) hv (hQ v h2 t2 g2 (T1.trans T2) rv) (hs _ _)
      · exact item_tupleT (s := { s with heap := h2, toks := t2 }) hl (by omega) (by omega) (seqIndex_neg h0 h8) hv (hQ v h2 t2 g2 (T1.trans T2) rv) (hs _ _)
    · cases e
  · cases e

noncomputable def PartOk (prog : Program) (w : World) (H : View) (k : Nat) (env : Env) (names : Names) (e : Option Expr) (f : St → Option (Option Int)) : Prop := Box (
  ∀ (A : Around) (s : Shared) (base g : View) (σ : St) (i : Option Int) (Q : Value → Shared → Prop), Room k A → FRel H env.locals names base σ g s.heap → f σ = some i →
    (∀ v h' tk g', Step s.heap g h' g' → IsPart v i → Q v { s with heap := h', toks := tk }) → wpAny (model prog w) A (evalPart e env) Q NoE s)
theorem Pt_none : PartOk prog w H k env names none (fun _ => some none) := by
  refine ⟨?_⟩
  intro A s base g σ i Q R F e hQ
  cases e
  exact wpAny_pure (hQ .none s.heap s.toks g (.refl F.subG) .none)
noncomputable def asInt : PV → Option (Option Int)
  | .int i => some (some i)
  | _ => none
theorem Pt_some {e : Expr} {f : St → Option PV} (h : EOk prog w H k env names e f) : PartOk prog w H k env names (some e) (fun σ => (f σ).bind asInt) := by
  refine ⟨?_⟩
  intro A s base g σ i Q R F e' hQ
  obtain ⟨d, ed, e2⟩ := Option.bind_eq_some_iff.mp e'
  cases d <;> simp only [asInt] at e2 <;> first | (cases e2; done) | skip
  cases e2
  refine h.out A s base g σ _ _ R F ed fun v h1 t1 g1 T1 r1 => ?_
  obtain ⟨t, rfl⟩ := rd_int.mp r1
  exact hQ _ h1 t1 g1 T1 (.int _ t)

noncomputable def cutV (xs : List PV) (lo hi : Option Int) : List PV := (xs.drop (lo.elim 0 (clipAt xs.length))).take (hi.elim xs.length (clipAt xs.length) - lo.elim 0 (clipAt xs.length))
theorem Rds.cut {g : View} {xs : List PV} {vs : List Value} (r : Rds g xs vs) (lo hi : Option Int) : ∃ ws : List Value, slicePick vs.toArray lo hi none = ws.toArray ∧ Rds g (cutV xs lo hi) ws := by
  rw [slicePick_plain]
  refine ⟨_, rfl, ?_⟩
  have e : vs.toArray.size = xs.length := by simp [r.len]
  rw [e]
  unfold cutV
  exact (r.drop _).take _
noncomputable def cutf (fa : St → Option (List PV)) (fl fu : St → Option (Option Int)) (σ : St) : Option (List PV) := match fa σ with
  | some xs => (match fl σ with
    | some lo => (match fu σ with
      | some hi => if xs.length ≤ lim then some (cutV xs lo hi) else none
      | none => none)
    | none => none)
  | none => none
theorem L_cut {a : Expr} {lo hi : Option Expr} {p pos : Pos} {fa : St → Option (List PV)} {fl fu : St → Option (Option Int)} (ha : PkOk prog w H k env names a fa) (hl : PartOk prog w H k env names lo fl) (hu : PartOk prog w H k env names hi fu) :
    LOk prog w H k env names (.Subscript a (.Slice lo hi none p) pos) (cutf fa fl fu) := by
  refine ⟨?_⟩
  intro A s base g σ ys Q R F e hQ
  unfold cutf at e
  split at e
  · rename_i xs ex
    split at e
    · rename_i l0 el
      split at e
      · rename_i u0 eu
        split at e
        · rename_i hlen
          cases e
          refine Subscript_ (ha.out A s base g σ xs _ R F ex fun l vs n h1 t1 g1 T1 o1 r1 => ?_)
          refine wpAny_Slice (hl.out A _ base g1 σ l0 _ R (F.step T1) el fun v2 h2 t2 g2 T2 p2 => ?_)
          refine hu.out A _ base g2 σ u0 _ R ((F.step T1).step T2) eu fun v3 h3 t3 g3 T3 p3 => ?_
          refine wpAny_pure ?_
          have T := (T1.trans T2).trans T3
          have o3 : h3.get? l = some (listObj vs n) := T3.ext _ _ (T2.ext _ _ o1)
          have hL : (h3.push { cls := .type "slice", data := .fields #[v2, v3, .none] }).IsList l vs.toArray := ⟨_, Heap.get?_push_of_some _ o3, rfl, n, rfl⟩
          have r3 := Rds.mono (T2.trans T3).sub _ _ r1
          obtain ⟨ws, ew, rw'⟩ := r3.cut l0 u0
          refine tail_any (T := "list") (ops := [.ref h3.objs.size, .ref l]) (s := { s with heap := h3.push { cls := .type "slice", data := .fields #[v2, v3, .none] }, toks := t3 }) hL.typeIs slot_list_getitem.lookup ?_ rfl
          refine wpAny_getItem_list_slice (s := { s with heap := h3.push { cls := .type "slice", data := .fields #[v2, v3, .none] }, toks := t3 }) hL (Heap.IsSliceOf.new ..) p2 p3 .none (by simp) ?_ (by rw [List.size_toArray, r1.len, sizeLine_eq]; rw [lim_eq] at hlen; omega)
          rw [ew]
          have X : Ext h3 ((h3.push { cls := .type "slice", data := .fields #[v2, v3, .none] }).push (listObj ws 0)) := (Ext.push _ _).trans (Ext.push _ _)
          refine hQ _ ws 0 _ t3 g3 (T.trans (Step.keep T.into X)) ?_ ?_ (Heap.get?_push_size _ rfl) rw'
          · exact none_at (T.ext.trans (Ext.push _ _))
          · exact view_at (fun b o q => Ext.push _ _ _ _ (T.into b o q))
        · cases e
      · cases e
    · cases e
  · cases e
theorem L_rev {a st : Expr} {p pos : Pos} {fa : St → Option (List PV)} (ha : PkOk prog w H k env names a fa) (hst : EOk prog w H k env names st (fun _ => some (.int (-1)))) :
    LOk prog w H k env names (.Subscript a (.Slice none none (some st) p) pos) (fun σ => (fa σ).bind fun xs => if xs.length ≤ lim then some xs.reverse else none) := by
  refine ⟨?_⟩
  intro A s base g σ ys Q R F e hQ
  obtain ⟨xs, ex, e⟩ := Option.bind_eq_some_iff.mp e
  split at e
  · rename_i hlen
    cases e
    refine Subscript_ (ha.out A s base g σ xs _ R F ex fun l vs n h1 t1 g1 T1 o1 r1 => ?_)
    refine wpAny_Slice ?_
    refine wpAny_pure (wpAny_pure ?_)
    show wpAny _ _ (eval st env) _ _ _
    refine hst.out A _ base g1 σ _ _ R (F.step T1) rfl fun v3 h3 t3 g3 T3 p3 => ?_
    obtain ⟨t, rfl⟩ := rd_int.mp p3
    have T := T1.trans T3
    have o3 : h3.get? l = some (listObj vs n) := T3.ext _ _ o1
    have hL : (h3.push { cls := .type "slice", data := .fields #[.none, .none, .int (-1) t] }).IsList l vs.toArray := ⟨_, Heap.get?_push_of_some _ o3, rfl, n, rfl⟩
    have r3 := Rds.mono T3.sub _ _ r1
    refine tail_any (T := "list") (ops := [.ref l, .ref h3.objs.size]) (s := { s with heap := h3.push { cls := .type "slice", data := .fields #[.none, .none, .int (-1) t] }, toks := t3 }) hL.typeIs slot_list_getitem.lookup ?_ rfl
    refine wpAny_getItem_list_slice (s := { s with heap := h3.push { cls := .type "slice", data := .fields #[.none, .none, .int (-1) t] }, toks := t3 }) hL (Heap.IsSliceOf.new ..) .none .none (.int (-1) t) (by simp) ?_ (by rw [List.size_toArray, r1.len, sizeLine_eq]; rw [lim_eq] at hlen; omega)
    rw [krv_pick]
    have X : Ext h3 ((h3.push { cls := .type "slice", data := .fields #[.none, .none, .int (-1) t] }).push (listObj vs.reverse 0)) := (Ext.push _ _).trans (Ext.push _ _)
    refine hQ _ vs.reverse 0 _ t3 g3 (T.trans (Step.keep T.into X)) ?_ ?_ (Heap.get?_push_size _ rfl) r3.reverse
    · exact none_at (T.ext.trans (Ext.push _ _))
    · exact view_at (fun b o q => Ext.push _ _ _ _ (T.into b o q))
  · cases e
end
end
end Mine
end
section
open PySem PySem.W PySem.Calls PyProof.Rows
set_option Elab.async false
set_option maxRecDepth 100000
namespace Mine
noncomputable section

theorem ne_list_dict {vs : List Value} {n : Nat} {es : List DictEntry} {n' : Nat} (e : some (listObj vs n) = some (dictOf es n')) : False := by
  have := congrArg (fun o : Option Obj => o.map Obj.data) e
  cases this
section
variable {H base g : View} {L : Addr} {names : Names} {σ : St} {h h' : Heap} {m : Str → Option Value} {ad : Nat → Addr}

theorem FCore.ne_L_list (X : FCore H L names base σ g h m ad) {a : Addr} {vs : List Value} {n : Nat} (e : h.get? a = some (listObj vs n)) : a ≠ L := by
  rintro rfl
  obtain ⟨o, es, ep, ho, hd, _⟩ := X.ns
  rw [e] at ho; cases ho; cases hd
theorem FCore.ne_L_inst (X : FCore H L names base σ g h m ad) {a C dx : Addr} (e : h.get? a = some (instObj C dx)) : a ≠ L := by
  rintro rfl
  obtain ⟨o, es, ep, ho, hd, _⟩ := X.ns
  rw [e] at ho; cases ho; cases hd
theorem FCore.ne_L_cell (X : FCore H L names base σ g h m ad) {a : Addr} {o : Obj} {v : Option Value} (e : h.get? a = some o) (hd : o.data = .cell v) : a ≠ L := by
  rintro rfl
  obtain ⟨o', es, ep, ho, hd', _⟩ := X.ns
  rw [e] at ho; cases ho; rw [hd] at hd'; cases hd'

theorem nodup_ne {names : Names} (nd : (names.map (·.1)).Nodup) {i j : Nat} {x y : Str} {k k' : SK} (hi : names[i]? = some (x, k)) (hj : names[j]? = some (y, k')) (hne : i ≠ j) : y ≠ x := by
  rintro rfl
  have h1 : (names.map (·.1))[i]? = some y := by simp [hi]
  have h2 : (names.map (·.1))[j]? = some y := by simp [hj]
  exact hne ((List.getElem?_inj (List.getElem?_eq_some_iff.mp h1).1 nd).mp (h1.trans h2.symm))

theorem FCore.setL (X : FCore H L names base σ g h m ad) (nd : (names.map (·.1)).Nodup) {i : Nat} {x : Str} (hi : names[i]? = some (x, SK.loc)) {v : Value} (hn : h'.Ns L (fun y => if y = x then some v else m y)) (S : Heap.SameBut L h h')
    {sl : Slot} {a : Addr} (hs : SlotOk L base g h' (fun y => if y = x then some v else m y) a x .loc sl) (hap : sl.isOwn = true → ∀ j sl', j ≠ i → σ[j]? = some sl' → sl'.isOwn = true → ad j ≠ a) :
    FCore H L names base (σ.set i sl) g h' (fun y => if y = x then some v else m y) (fun j => if j = i then a else ad j) := by
  have get : ∀ b, b ≠ L → h'.get? b = h.get? b := S.2
  refine ⟨hn, X.home, X.baseL, X.gL, fun b o e => ?_, fun b o e => ?_, by rw [List.length_set]; exact X.len, ?_, ?_, X.fars, ?_⟩
  · rw [get b (by rintro rfl; rw [X.baseL] at e; cases e)]; exact X.subB _ _ e
  · rw [get b (by rintro rfl; rw [X.gL] at e; cases e)]; exact X.subG _ _ e
  · intro j y k sl' hj hsl
    by_cases hji : j = i
    · subst hji
      rw [hi] at hj; cases hj
      have hlt : j < σ.length := by rw [X.len]; exact (List.getElem?_eq_some_iff.mp hi).1
      rw [List.getElem?_set_self hlt] at hsl
      cases hsl
      simp only [if_true]; exact hs
    · rw [List.getElem?_set_ne (Ne.symm hji)] at hsl
      have hyx := nodup_ne nd hi hj (Ne.symm hji)
      have Y := X.slot j y k sl' hj hsl
      simp only [if_neg hji]
      cases sl' with
      | empty => trivial
      | val d =>
        obtain ⟨u, hu, r⟩ := Y
        refine ⟨u, ?_, r⟩
        cases k with
        | loc => show (if y = x then _ else _) = _; rw [if_neg hyx]; exact hu
        | own c => obtain ⟨o, ho, hd⟩ := hu; exact ⟨o, (get _ (X.ne_L_cell ho hd)).trans ho, hd⟩
        | far c => obtain ⟨o, ho, hd⟩ := hu; exact ⟨o, (get _ (X.ne_L_cell ho hd)).trans ho, hd⟩
      | own xs =>
        obtain ⟨hk, hm, hb, hg, vs, n, ho, r⟩ := Y
        exact ⟨hk, (if_neg hyx).trans hm, hb, hg, vs, n, (get _ (X.ne_L_list ho)).trans ho, r⟩
      | self a0 C ns xs =>
        obtain ⟨hk, hm, hb, hg, dx, es, n, ho, hdL, hb', hg', hd, he, r⟩ := Y
        exact ⟨hk, (if_neg hyx).trans hm, hb, hg, dx, es, n, (get _ (X.ne_L_inst ho)).trans ho, hdL, hb', hg', (get _ hdL).trans hd, he, r⟩
  · intro y c hm
    obtain ⟨hb, hg, o, u, ho, hd⟩ := X.cells y c hm
    exact ⟨hb, hg, o, u, (get _ (X.ne_L_cell ho hd)).trans ho, hd⟩
  · intro j j' s1 s2 h1 h2 o1 o2 e
    by_cases hj : j = i
    · by_cases hj' : j' = i
      · rw [hj, hj']
      · rw [if_pos hj, if_neg hj'] at e
        rw [List.getElem?_set_ne (Ne.symm hj')] at h2
        have hlt : i < σ.length := by rw [X.len]; exact (List.getElem?_eq_some_iff.mp hi).1
        rw [hj, List.getElem?_set_self hlt] at h1
        cases h1
        exact absurd e.symm (hap o1 j' s2 hj' h2 o2)
    · by_cases hj' : j' = i
      · rw [if_neg hj, if_pos hj'] at e
        rw [List.getElem?_set_ne (Ne.symm hj)] at h1
        have hlt : i < σ.length := by rw [X.len]; exact (List.getElem?_eq_some_iff.mp hi).1
        rw [hj', List.getElem?_set_self hlt] at h2
        cases h2
        exact absurd e (hap o2 j s1 hj h1 o1)
      · rw [if_neg hj, if_neg hj'] at e
        rw [List.getElem?_set_ne (Ne.symm hj)] at h1
        rw [List.getElem?_set_ne (Ne.symm hj')] at h2
        exact X.apart j j' s1 s2 h1 h2 o1 o2 e

theorem FCore.setC {env : Env} (X : FCore H L names base σ g h m ad) (ok : EnvOk env names) {i : Nat} {x : Str} {c : Addr} (hi : names[i]? = some (x, SK.own c)) {v : Value} {d : PV} (hc : h'.IsCell c (some v)) (S : Heap.SameBut c h h')
    (r : Rd g d v) : FCore H L names base (σ.set i (.val d)) g h' m ad := by
  have get : ∀ b, b ≠ c → h'.get? b = h.get? b := S.2
  obtain ⟨bc, gc, oc, uc, hoc, hdc⟩ := X.cells x c (List.mem_of_getElem? hi)
  obtain ⟨oL, es, ep, hL, hdL, r3⟩ := X.ns
  have hLc : L ≠ c := by rintro rfl; rw [hL] at hoc; cases hoc; rw [hdL] at hdc; cases hdc
  have hlt : i < σ.length := by rw [X.len]; exact (List.getElem?_eq_some_iff.mp hi).1
  refine ⟨⟨oL, es, ep, (get _ hLc).trans hL, hdL, r3⟩, X.home, X.baseL, X.gL, fun b o e => ?_, fun b o e => ?_, by rw [List.length_set]; exact X.len, ?_, ?_, X.fars, ?_⟩
  · rw [get b (by rintro rfl; rw [bc] at e; cases e)]; exact X.subB _ _ e
  · rw [get b (by rintro rfl; rw [gc] at e; cases e)]; exact X.subG _ _ e
  · intro j y k sl' hj hsl
    by_cases hji : j = i
    · subst hji
      rw [hi] at hj; cases hj
      rw [List.getElem?_set_self hlt] at hsl
      cases hsl
      obtain ⟨o, ho, hd⟩ := hc
      exact ⟨v, ⟨o, ho, hd⟩, r⟩
    · rw [List.getElem?_set_ne (Ne.symm hji)] at hsl
      have hyx := nodup_ne ok.nodup hi hj (Ne.symm hji)
      have Y := X.slot j y k sl' hj hsl
      cases sl' with
      | empty => trivial
      | val d =>
        obtain ⟨u, hu, r⟩ := Y
        refine ⟨u, ?_, r⟩
        cases k with
        | loc => exact hu
        | own c' =>
          obtain ⟨o, ho, hd⟩ := hu
          refine ⟨o, (get _ ?_).trans ho, hd⟩
          rintro rfl
          exact hyx (ok.apart y x c' (List.mem_of_getElem? hj) (List.mem_of_getElem? hi))
        | far c' =>
          obtain ⟨o, ho, hd⟩ := hu
          refine ⟨o, (get _ ?_).trans ho, hd⟩
          rintro rfl
          obtain ⟨o', e⟩ := X.fars y c' (List.mem_of_getElem? hj)
          rw [bc] at e; cases e
      | own xs =>
        obtain ⟨hk, hm, hb, hg, vs, n, ho, r⟩ := Y
        exact ⟨hk, hm, hb, hg, vs, n, (get _ (by rintro rfl; rw [hoc] at ho; cases ho; cases hdc)).trans ho, r⟩
      | self a0 C ns xs =>
        obtain ⟨hk, hm, hb, hg, dx, es, n, ho, hdL, hb', hg', hd, he, r⟩ := Y
        exact ⟨hk, hm, hb, hg, dx, es, n, (get _ (by rintro rfl; rw [hoc] at ho; cases ho; cases hdc)).trans ho, hdL, hb', hg', (get _ (by rintro rfl; rw [hoc] at hd; cases hd; cases hdc)).trans hd, he, r⟩
  · intro y c' hm
    obtain ⟨hb, hg, o, u, ho, hd⟩ := X.cells y c' hm
    by_cases hcc : c' = c
    · subst hcc
      obtain ⟨o', ho', hd'⟩ := hc
      exact ⟨hb, hg, o', some v, ho', hd'⟩
    · exact ⟨hb, hg, o, u, (get _ hcc).trans ho, hd⟩
  · intro j j' s1 s2 h1 h2 o1 o2 e
    have q : ∀ {l : Nat} {s : Slot}, (σ.set i (.val d))[l]? = some s → s.isOwn = true → σ[l]? = some s := by
      intro l s hl ho
      by_cases hli : l = i
      · rw [hli, List.getElem?_set_self hlt] at hl; cases hl; cases ho
      · rwa [List.getElem?_set_ne (Ne.symm hli)] at hl
    exact X.apart j j' s1 s2 (q h1 o1) (q h2 o2) o1 o2 e

theorem FCore.setA (X : FCore H L names base σ g h m ad) {i : Nat} {xs ys : List PV} (hi : σ[i]? = some (.own xs)) {vs : List Value} {n : Nat} (hn : h'.get? (ad i) = some (listObj vs n)) (S : Heap.SameBut (ad i) h h') (r : Rds g ys vs) :
    FCore H L names base (σ.set i (.own ys)) g h' m ad := by
  have get : ∀ b, b ≠ ad i → h'.get? b = h.get? b := S.2
  have hlt : i < σ.length := (List.getElem?_eq_some_iff.mp hi).1
  have hni : i < names.length := by rw [← X.len]; exact hlt
  obtain ⟨x, k, hni'⟩ : ∃ x k, names[i]? = some (x, k) := ⟨_, _, List.getElem?_eq_getElem hni⟩
  obtain ⟨hk0, hm0, bi, gi, vs0, n0, hoi, r0⟩ := X.slot i x k _ hni' hi
  obtain ⟨oL, es, ep, hL, hdL, r3⟩ := X.ns
  have hLc : L ≠ ad i := (X.ne_L_list hoi).symm
  refine ⟨⟨oL, es, ep, (get _ hLc).trans hL, hdL, r3⟩, X.home, X.baseL, X.gL, fun b o e => ?_, fun b o e => ?_, by rw [List.length_set]; exact X.len, ?_, ?_, X.fars, ?_⟩
  · rw [get b (by rintro rfl; rw [bi] at e; cases e)]; exact X.subB _ _ e
  · rw [get b (by rintro rfl; rw [gi] at e; cases e)]; exact X.subG _ _ e
  · intro j y k sl' hj hsl
    by_cases hji : j = i
    · subst hji
      rw [hni'] at hj; cases hj
      rw [List.getElem?_set_self hlt] at hsl
      cases hsl
      exact ⟨hk0, hm0, bi, gi, vs, n, hn, r⟩
    · rw [List.getElem?_set_ne (Ne.symm hji)] at hsl
      have Y := X.slot j y k sl' hj hsl
      cases sl' with
      | empty => trivial
      | val d =>
        obtain ⟨u, hu, r⟩ := Y
        refine ⟨u, ?_, r⟩
        cases k with
        | loc => exact hu
        | own c' => obtain ⟨o, ho, hd⟩ := hu; exact ⟨o, (get _ (by rintro rfl; rw [hoi] at ho; cases ho; cases hd)).trans ho, hd⟩
        | far c' => obtain ⟨o, ho, hd⟩ := hu; exact ⟨o, (get _ (by rintro rfl; rw [hoi] at ho; cases ho; cases hd)).trans ho, hd⟩
      | own zs =>
        obtain ⟨hk, hm, hb, hg, ws, n', ho, r⟩ := Y
        exact ⟨hk, hm, hb, hg, ws, n', (get _ (fun e => hji (X.apart j i _ _ hsl hi rfl rfl e))).trans ho, r⟩
      | self a0 C ns xs =>
        obtain ⟨hk, hm, hb, hg, dx, es, n, ho, hdL, hb', hg', hd, he, r⟩ := Y
        exact ⟨hk, hm, hb, hg, dx, es, n, (get _ (by rintro e; rw [e, hoi] at ho; cases ho)).trans ho, hdL, hb', hg', (get _ (by rintro rfl; rw [hoi] at hd; exact ne_list_dict hd)).trans hd, he, r⟩
  · intro y c' hm
    obtain ⟨hb, hg, o, u, ho, hd⟩ := X.cells y c' hm
    exact ⟨hb, hg, o, u, (get _ (by rintro rfl; rw [hoi] at ho; cases ho; cases hd)).trans ho, hd⟩
  · intro j j' s1 s2 h1 h2 o1 o2 e
    have q : ∀ {l : Nat} {s : Slot}, (σ.set i (.own ys))[l]? = some s → s.isOwn = true → ∃ s', σ[l]? = some s' ∧ s'.isOwn = true := by
      intro l s hl ho
      by_cases hli : l = i
      · rw [hli]; exact ⟨_, hi, rfl⟩
      · rw [List.getElem?_set_ne (Ne.symm hli)] at hl; exact ⟨s, hl, ho⟩
    obtain ⟨s1', h1', o1'⟩ := q h1 o1
    obtain ⟨s2', h2', o2'⟩ := q h2 o2
    exact X.apart j j' s1' s2' h1' h2' o1' o2' e

theorem FCore.freeze (X : FCore H L names base σ g h m ad) {i : Nat} {xs : List PV} (hi : σ[i]? = some (.own xs)) :
    ∃ o, g (ad i) = none ∧ base (ad i) = none ∧ FCore H L names base (σ.set i (.val (.list xs))) (put g (ad i) o) h m ad := by
  have hlt : i < σ.length := (List.getElem?_eq_some_iff.mp hi).1
  have hni : i < names.length := by rw [← X.len]; exact hlt
  obtain ⟨x, k, hni'⟩ : ∃ x k, names[i]? = some (x, k) := ⟨_, _, List.getElem?_eq_getElem hni⟩
  obtain ⟨hk0, hm0, bi, gi, vs0, n0, hoi, r0⟩ := X.slot i x k _ hni' hi
  refine ⟨listObj vs0 n0, gi, bi, ?_⟩
  have SP : Sub g (put g (ad i) (listObj vs0 n0)) := Sub.put gi
  have off : ∀ b, b ≠ ad i → put g (ad i) (listObj vs0 n0) b = g b := fun b hb => by unfold put; rw [if_neg hb]
  have hLc : L ≠ ad i := (X.ne_L_list hoi).symm
  refine ⟨X.ns, X.home.trans SP, X.baseL, (off _ hLc).trans X.gL, X.subB, fun b o e => ?_, by rw [List.length_set]; exact X.len, ?_, ?_, X.fars, ?_⟩
  · by_cases hb : b = ad i
    · subst hb; rw [put_self] at e; cases e; exact hoi
    · rw [off b hb] at e; exact X.subG _ _ e
  · intro j y k sl' hj hsl
    by_cases hji : j = i
    · subst hji
      rw [hni'] at hj; cases hj
      rw [List.getElem?_set_self hlt] at hsl
      cases hsl
      subst hk0
      exact ⟨.ref (ad j), hm0, rd_list.mpr ⟨_, vs0, n0, rfl, put_self .., Rds.mono SP _ _ r0⟩⟩
    · rw [List.getElem?_set_ne (Ne.symm hji)] at hsl
      have Y := X.slot j y k sl' hj hsl
      cases sl' with
      | empty => trivial
      | val d => obtain ⟨u, hu, r⟩ := Y; exact ⟨u, hu, Rd.mono SP _ _ r⟩
      | own zs =>
        obtain ⟨hk, hm, hb, hg, ws, n', ho, r⟩ := Y
        exact ⟨hk, hm, hb, (off _ (fun e => hji (X.apart j i _ _ hsl hi rfl rfl e))).trans hg, ws, n', ho, Rds.mono SP _ _ r⟩
      | self a0 C ns xs =>
        obtain ⟨hk, hm, hb, hg, dx, es, n, ho, hdL, hb', hg', hd, he, r⟩ := Y
        exact ⟨hk, hm, hb, (off _ (by rintro e; rw [e, hoi] at ho; cases ho)).trans hg, dx, es, n, ho, hdL, hb', (off _ (by rintro rfl; rw [hoi] at hd; exact ne_list_dict hd)).trans hg', hd, he, Rds.mono SP _ _ r.1, r.2⟩
  · intro y c' hm
    obtain ⟨hb, hg, o, u, ho, hd⟩ := X.cells y c' hm
    exact ⟨hb, (off _ (by rintro rfl; rw [hoi] at ho; cases ho; cases hd)).trans hg, o, u, ho, hd⟩
  · intro j j' s1 s2 h1 h2 o1 o2 e
    have q : ∀ {l : Nat} {s : Slot}, (σ.set i (.val (.list xs)))[l]? = some s → s.isOwn = true → σ[l]? = some s := by
      intro l s hl ho
      by_cases hli : l = i
      · rw [hli, List.getElem?_set_self hlt] at hl; cases hl; cases ho
      · rwa [List.getElem?_set_ne (Ne.symm hli)] at hl
    exact X.apart j j' s1 s2 (q h1 o1) (q h2 o2) o1 o2 e
end

section
variable {prog : Program} {w : World} {H : View} {k : Nat} {env : Env} {names : Names}

theorem store_val {M : Model} {A : Around} {E : Value → Shared → Prop} {s : Shared} {base g : View} {σ : St} {x : Str} {sk : SK} {i : Nat} {v : Value} {d : PV} {Q : Unit → Shared → Prop} (ok : EnvOk env names) (hi : names[i]? = some (x, sk))
    (hnf : ∀ c, sk ≠ .far c) (F : FRel H env.locals names base σ g s.heap) (r : Rd g d v) (hQ : ∀ h' tk, FRel H env.locals names base (σ.set i (.val d)) g h' → Q () { s with heap := h', toks := tk }) :
    wpAny M A (storeName env x v) Q E s := by
  obtain ⟨m, ad, X⟩ := F
  cases sk with
  | loc =>
    refine wpAny_storeName_local (ok.loc x (List.mem_of_getElem? hi)) X.ns (fun h' hn hs => hQ h' _ ⟨_, _, X.setL ok.nodup hi hn hs (sl := .val d) (a := 0) ⟨v, by simp [Holds], r⟩ (fun e => by cases e)⟩) (by rw [ok.kind]; rfl)
  | own c =>
    obtain ⟨bc, gc, oc, uc, hoc, hdc⟩ := X.cells x c (List.mem_of_getElem? hi)
    obtain ⟨h1, h2⟩ := ok.own x c (List.mem_of_getElem? hi)
    exact wpAny_storeName_cell ok.kind h1 h2 ⟨oc, hoc, hdc⟩ fun h' hc hs => hQ h' s.toks ⟨_, _, X.setC ok hi hc hs r⟩
  | far c => exact absurd rfl (hnf c)

theorem store_own {M : Model} {A : Around} {E : Value → Shared → Prop} {s : Shared} {base g : View} {σ : St} {x : Str} {i : Nat} {a : Addr} {vs : List Value} {n : Nat} {xs : List PV} {m : Str → Option Value} {ad : Nat → Addr} {Q : Unit → Shared → Prop} (ok : EnvOk env names) (hi : names[i]? = some (x, SK.loc))
    (X : FCore H env.locals names base σ g s.heap m ad) (ha : s.heap.get? a = some (listObj vs n)) (ga : g a = none) (ba : base a = none) (hnew : ∀ j sl, σ[j]? = some sl → sl.isOwn = true → ad j ≠ a) (r : Rds g xs vs)
    (hQ : ∀ h' tk, FRel H env.locals names base (σ.set i (.own xs)) g h' → Q () { s with heap := h', toks := tk }) : wpAny M A (storeName env x (.ref a)) Q E s := by
  refine wpAny_storeName_local (ok.loc x (List.mem_of_getElem? hi)) X.ns (fun h' hn hs => hQ h' _ ⟨_, _, X.setL ok.nodup hi hn hs (sl := .own xs) (a := a) ⟨rfl, by simp, ba, ga, vs, n, ?_, r⟩ (fun _ j sl' _ h1 h2 => hnew j sl' h1 h2)⟩) (by rw [ok.kind]; rfl)
  exact (hs.2 a (X.ne_L_list ha)).trans ha
theorem FCore.own_at {base g : View} {L : Addr} {σ : St} {h : Heap} {m : Str → Option Value} {ad : Nat → Addr} (X : FCore H L names base σ g h m ad) {j : Nat} {sl : Slot} (hj : σ[j]? = some sl) (ho : sl.isOwn = true) : ∃ o, h.get? (ad j) = some o := by
  have hlt : j < names.length := by rw [← X.len]; exact (List.getElem?_eq_some_iff.mp hj).1
  have Y := X.slot j names[j].1 names[j].2 sl (List.getElem?_eq_getElem hlt) hj
  cases sl with
  | own xs => obtain ⟨_, _, _, _, vs, n, e, _⟩ := Y; exact ⟨_, e⟩
  | self a0 C ns xs => obtain ⟨_, _, _, _, dx, es, n, e, _⟩ := Y; exact ⟨_, e⟩
  | empty => cases ho
  | val d => cases ho
end
end
end Mine
end
section
open PySem PySem.W PySem.Calls PyProof.Rows
set_option Elab.async false
set_option maxRecDepth 100000
namespace Mine
noncomputable section
section
variable {prog : Program} {w : World} {H : View} {k : Nat} {env : Env} {names : Names}

theorem X_nil : XOk prog w H k env names [] (fun σ => some (.next σ)) := by
  refine ⟨?_⟩
  intro A s base g σ o Q R F e hQ
  cases e
  exact wpAny_execs_nil (hQ .next s.heap s.toks g (Sub.refl g) (fun _ _ _ n => n) ⟨rfl, F⟩)
noncomputable def seqf (fs fr : St → Option Out) (σ : St) : Option Out := match fs σ with
  | some (.next σ') => fr σ'
  | o => o
theorem X_cons {st : Stmt} {rest : List Stmt} {fs fr : St → Option Out} (hs : SOk prog w H k env names st fs) (hr : XOk prog w H k env names rest fr) : XOk prog w H k env names (st :: rest) (seqf fs fr) := by
  refine ⟨?_⟩
  intro A s base g σ o Q R F e hQ
  refine wpAny_execs_cons ?_
  unfold seqf at e
  cases h1 : fs σ with
  | none => rw [h1] at e; cases e
  | some o1 =>
    rw [h1] at e
    refine hs.out A s base g σ o1 _ R F h1 fun fl h' tk g' S1 B1 O1 => ?_
    cases o1 with
    | next σ' =>
      obtain ⟨rfl, F'⟩ := O1
      exact hr.out A _ base g' σ' o _ R F' e fun fl h2 t2 g2 S2 B2 O2 => hQ fl h2 t2 g2 (S1.trans S2) (fun b x eb n => B2 b x eb (B1 b x eb n)) O2
    | brk σ' => cases e; obtain ⟨rfl, F'⟩ := O1; exact hQ .brk h' tk g' S1 B1 ⟨rfl, F'⟩
    | cont σ' => cases e; obtain ⟨rfl, F'⟩ := O1; exact hQ .cont h' tk g' S1 B1 ⟨rfl, F'⟩
    | ret d => cases e; obtain ⟨v, rfl, r⟩ := O1; exact hQ _ h' tk g' S1 B1 ⟨v, rfl, r⟩
noncomputable def freeze (i : Nat) (σ : St) : St := match σ[i]? with
  | some (.own xs) => σ.set i (.val (.list xs))
  | _ => σ
theorem FRel.freeze {base g : View} {L : Addr} {σ : St} {h : Heap} (F : FRel H L names base σ g h) (i : Nat) : ∃ g', Sub g g' ∧ (∀ b x, base b = some x → g b = none → g' b = none) ∧ FRel H L names base (freeze i σ) g' h := by
  unfold Mine.freeze
  split
  · rename_i xs hi
    obtain ⟨m, ad, X⟩ := F
    obtain ⟨o, ga, ba, Y⟩ := X.freeze hi
    refine ⟨put g (ad i) o, Sub.put ga, fun b x eb n => ?_, m, ad, Y⟩
    unfold put
    rw [if_neg (by rintro rfl; rw [ba] at eb; cases eb)]; exact n
  · exact ⟨g, Sub.refl g, fun _ _ _ n => n, F⟩
theorem X_freeze (i : Nat) {b : List Stmt} {f : St → Option Out} (h : XOk prog w H k env names b f) : XOk prog w H k env names b (fun σ => f (freeze i σ)) := by
  refine ⟨?_⟩
  intro A s base g σ o Q R F e hQ
  obtain ⟨g', S, B, F'⟩ := F.freeze i
  exact h.out A s base g' (freeze i σ) o Q R F' e fun fl h2 t2 g2 S2 B2 O2 => hQ fl h2 t2 g2 (S.trans S2) (fun b x eb n => B2 b x eb (B b x eb n)) O2

theorem Step.base {base g g' : View} {h h' : Heap} (t : Step h g h' g') (S : Sub base h.get?) : ∀ b x, base b = some x → g b = none → g' b = none := fun b x e n => t.fresh b x (S _ _ e) n

theorem S_assign {x : Str} {sk : SK} {p pos : Pos} {e : Expr} {f : St → Option PV} (ok : EnvOk env names) (i : Nat) (hi : names[i]? = some (x, sk)) (hnf : ∀ c, sk ≠ .far c) (he : EOk prog w H k env names e f)
    (hs : swapsWith e (some (.Name x p)) pos.line env = pure false := by rfl) :
    SOk prog w H k env names (.Assign [.Name x p] e pos) (fun σ => (f σ).map fun d => .next (σ.set i (.val d))) := by
  refine ⟨?_⟩
  intro A s base g σ o Q R F e' hQ
  obtain ⟨d, ed, rfl⟩ := Option.map_eq_some_iff.mp e'
  refine wpAny_Assign_Name (he.out A s base g σ d _ R F ed fun v h1 t1 g1 T1 r1 => ?_) hs
  exact store_val ok hi hnf (F.step T1) r1 fun h2 t2 F2 => hQ .next h2 t2 g1 T1.sub (T1.base F.subB) ⟨rfl, F2⟩
theorem S_assign_own {x : Str} {p pos : Pos} {e : Expr} {f : St → Option (List PV)} (ok : EnvOk env names) (i : Nat) (hi : names[i]? = some (x, SK.loc)) (he : LOk prog w H k env names e f)
    (hs : swapsWith e (some (.Name x p)) pos.line env = pure false := by rfl) :
    SOk prog w H k env names (.Assign [.Name x p] e pos) (fun σ => (f σ).map fun xs => .next (σ.set i (.own xs))) := by
  refine ⟨?_⟩
  intro A s base g σ o Q R F e' hQ
  obtain ⟨xs, ed, rfl⟩ := Option.map_eq_some_iff.mp e'
  refine wpAny_Assign_Name (he.out A s base g σ xs _ R F ed fun a vs n h1 t1 g1 T1 na ga ha r1 => ?_) hs
  obtain ⟨m, ad, X⟩ := F
  have ba : base a = none := by
    cases q : base a with
    | none => rfl
    | some o => have := X.subB _ _ q; rw [na] at this; cases this
  refine store_own ok hi (X.step T1) ha ga ba (fun j sl hj ho e => ?_) r1 fun h2 t2 F2 => hQ .next h2 t2 g1 T1.sub (T1.base X.subB) ⟨rfl, F2⟩
  obtain ⟨o, ho'⟩ := X.own_at hj ho
  rw [e, na] at ho'; cases ho'
theorem S_assign3 {x y z : Str} {sx sy sz : SK} {p q r pos : Pos} {e : Expr} {f : St → Option PV} (ok : EnvOk env names) (i j l : Nat) (hi : names[i]? = some (x, sx)) (hj : names[j]? = some (y, sy)) (hl : names[l]? = some (z, sz))
    (fi : ∀ c, sx ≠ .far c) (fj : ∀ c, sy ≠ .far c) (fl : ∀ c, sz ≠ .far c) (he : EOk prog w H k env names e f) (hw : swappedStores [.Name x p, .Name y q, .Name z r] e env = pure none := by rfl) :
    SOk prog w H k env names (.Assign [.Name x p, .Name y q, .Name z r] e pos) (fun σ => (f σ).map fun d => .next (((σ.set i (.val d)).set j (.val d)).set l (.val d))) := by
  refine ⟨?_⟩
  intro A s base g σ o Q R F e' hQ
  obtain ⟨d, ed, rfl⟩ := Option.map_eq_some_iff.mp e'
  refine wpAny_Assign_three (he.out A s base g σ d _ R F ed fun v h1 t1 g1 T1 r1 => ?_) rfl hw
  refine wpAny_assign_Name (store_val ok hi fi (F.step T1) r1 fun h2 t2 F2 => ?_)
  refine wpAny_assign_Name (store_val ok hj fj F2 r1 fun h3 t3 F3 => ?_)
  exact wpAny_assign_Name (store_val ok hl fl F3 r1 fun h4 t4 F4 => hQ .next h4 t4 g1 T1.sub (T1.base F.subB) ⟨rfl, F4⟩)

noncomputable def TgOk (prog : Program) (w : World) (H : View) (env : Env) (names : Names) (t : Expr) (bind : St → PV → Option St) : Prop := Box (
  ∀ (A : Around) (s : Shared) (base g : View) (σ σ' : St) (d : PV) (v : Value) (Q : Unit → Shared → Prop), Room 1 A → FRel H env.locals names base σ g s.heap → Rd g d v → bind σ d = some σ' →
    (∀ h' tk, FRel H env.locals names base σ' g h' → Q () { s with heap := h', toks := tk }) → wpAny (model prog w) A (assign t env v) Q NoE s)
theorem Tg_name {x : Str} {sk : SK} {p : Pos} (ok : EnvOk env names) (i : Nat) (hi : names[i]? = some (x, sk)) (hnf : ∀ c, sk ≠ .far c) : TgOk prog w H env names (.Name x p) (fun σ d => some (σ.set i (.val d))) := by
  refine ⟨?_⟩
  intro A s base g σ σ' d v Q R F r e hQ
  cases e
  exact wpAny_assign_Name (store_val ok hi hnf F r hQ)
noncomputable def bindAll : List Nat → St → List PV → Option St
  | [], σ, [] => some σ
  | i :: is, σ, d :: ds => bindAll is (σ.set i (.val d)) ds
  | _, _, _ => none
noncomputable def NamesAt (names : Names) : List Expr → List Nat → Prop
  | [], [] => True
  | e :: es, i :: is => (∃ x p sk, e = .Name x p ∧ names[i]? = some (x, sk) ∧ ∀ c, sk ≠ SK.far c) ∧ NamesAt names es is
  | _, _ => False
theorem namesAt_each : ∀ (es : List Expr) (is : List Nat), NamesAt names es is → (assignEach es env).length = es.length ∧ (assignEach es env).findIdx? (·.1) = none ∧ (assignEach es env).map (·.2) = es.map fun e => assign e env
  | [], _, _ => ⟨rfl, rfl, rfl⟩
  | e :: es, [], h => by cases h
  | e :: es, i :: is, ⟨⟨x, p, sk, he, _⟩, h⟩ => by
    obtain ⟨a, b, c⟩ := namesAt_each es is h
    subst he
    have e0 : assignEach (.Name x p :: es) env = (false, assign (.Name x p) env) :: assignEach es env := by rfl
    rw [e0]
    exact ⟨by simp [a], by simp [List.findIdx?_cons, b], by simp [c]⟩
theorem bind_each {A : Around} (ok : EnvOk env names) : ∀ (es : List Expr) (is : List Nat) (ds : List PV) (vs : List Value) (s : Shared) (base g : View) (σ σ' : St) (Q : Unit → Shared → Prop), NamesAt names es is → FRel H env.locals names base σ g s.heap → Rds g ds vs → bindAll is σ ds = some σ' →
    (∀ h' tk, FRel H env.locals names base σ' g h' → Q () { s with heap := h', toks := tk }) → wpAny (model prog w) A (assignInOrder (es.map fun e => assign e env) vs) Q NoE s
  | [], [], ds, vs, s, base, g, σ, σ', Q, _, F, r, e, hQ => by
    cases ds with
    | nil => simp only [bindAll] at e; cases e; exact wpAny_pure (hQ s.heap s.toks F)
    | cons => simp [bindAll] at e
  | [], _ :: _, _, _, _, _, _, _, _, _, h, _, _, _, _ => by cases h
  | _ :: _, [], _, _, _, _, _, _, _, _, h, _, _, _, _ => by cases h
  | e0 :: es, i :: is, ds, vs, s, base, g, σ, σ', Q, ⟨⟨x, p, sk, he, hx, hnf⟩, h⟩, F, r, e, hQ => by
    cases ds with
    | nil => simp [bindAll] at e
    | cons d ds =>
      rw [Rds] at r
      obtain ⟨v, vs', rfl, r1, r2⟩ := r
      subst he
      rw [bindAll] at e
      show wpAny _ _ (do holding vs' (assign (.Name x p) env v); assignInOrder (es.map fun e => assign e env) vs') _ _ _
      refine wpAny_bind (wpAny_holding (wpAny_assign_Name (store_val ok hx hnf F r1 fun h2 t2 F2 => ?_)))
      exact bind_each ok es is ds vs' _ base g _ σ' Q h F2 r2 e hQ
theorem Ext.of_new {h h' : Heap} (x : Heap.ExtBut h.objs.size h h') : Ext h h' := fun b o e => x b o (by rintro rfl; exact absurd (Heap.lt_size e) (Nat.lt_irrefl _)) e
theorem bind_tup {A : Around} {s : Shared} {base g : View} {σ σ' : St} {elts : List Expr} {kk : Nat} {p : Pos} {is : List Nat} {t : Addr} {ds : List PV} {vs : List Value} {n : Nat} {Q : Unit → Shared → Prop} (ok : EnvOk env names) (hh : A.handled = none) (hn : NamesAt names elts is) (F : FRel H env.locals names base σ g s.heap)
    (ht : s.heap.get? t = some (tupObj vs n)) (r : Rds g ds vs) (hl : ds.length = elts.length) (e : bindAll is σ ds = some σ') (hQ : ∀ h' tk, FRel H env.locals names base σ' g h' → Q () { s with heap := h', toks := tk }) :
    wpAny (model prog w) A (assign (.Tuple elts kk p) env (.ref t)) Q NoE s := by
  obtain ⟨a, b, c⟩ := namesAt_each (env := env) elts is hn
  refine wpAny_assign_Tuple hh (items := vs.toArray) ⟨_, ht, rfl, n, rfl⟩ (by rw [a, List.size_toArray, r.len, hl]) b fun h' x => ?_
  rw [c]
  exact bind_each ok elts is ds vs _ base g σ σ' Q hn (F.step (Step.keep F.subG (Ext.of_new x))) r e hQ
theorem bind_list {A : Around} {s : Shared} {base g : View} {σ σ' : St} {elts : List Expr} {kk : Nat} {p : Pos} {is : List Nat} {t : Addr} {ds : List PV} {vs : List Value} {n : Nat} {Q : Unit → Shared → Prop} (ok : EnvOk env names) (hh : A.handled = none) (hn : NamesAt names elts is) (F : FRel H env.locals names base σ g s.heap)
    (ht : s.heap.get? t = some (listObj vs n)) (r : Rds g ds vs) (hl : ds.length = elts.length) (e : bindAll is σ ds = some σ') (hQ : ∀ h' tk, FRel H env.locals names base σ' g h' → Q () { s with heap := h', toks := tk }) :
    wpAny (model prog w) A (assign (.Tuple elts kk p) env (.ref t)) Q NoE s := by
  obtain ⟨a, b, c⟩ := namesAt_each (env := env) elts is hn
  rw [arm_assign_Tuple]
  refine wpAny_bind (wpAny_standAt ?_)
  unfold unpack
  rw [b, a, ← hl, ← r.len]
  refine wpAny_bind (wpAny_holding ?_)
  have hL : s.heap.IsList t vs.toArray := ⟨_, ht, rfl, n, rfl⟩
  have e0 : vs.length = vs.toArray.size := by simp
  rw [e0]
  refine kun_itemsOf hh hL fun h' x => ?_
  rw [c]
  exact bind_each ok elts is ds vs _ base g σ σ' Q hn (F.step (Step.keep F.subG (Ext.of_new x))) r e hQ
noncomputable def bindSeq (n : Nat) (is : List Nat) (σ : St) : PV → Option St
  | .tup ds => if ds.length = n then bindAll is σ ds else none
  | .list ds => if ds.length = n then bindAll is σ ds else none
  | _ => none
theorem Tg_tuple {elts : List Expr} {kk : Nat} {p : Pos} {is : List Nat} (ok : EnvOk env names) (hn : NamesAt names elts is) : TgOk prog w H env names (.Tuple elts kk p) (bindSeq elts.length is) := by
  refine ⟨?_⟩
  intro A s base g σ σ' d v Q R F r e hQ
  cases d <;> simp only [bindSeq] at e <;> first | (cases e; done) | skip
  · obtain ⟨t, vs, n, rfl, gt, rs⟩ := rd_tup.mp r
    split at e
    · rename_i hl; exact bind_tup ok R.hand hn F (F.subG _ _ gt) rs hl e hQ
    · cases e
  · obtain ⟨t, vs, n, rfl, gt, rs⟩ := rd_list.mp r
    split at e
    · rename_i hl; exact bind_list ok R.hand hn F (F.subG _ _ gt) rs hl e hQ
    · cases e
theorem S_unpack {elts : List Expr} {kk : Nat} {p pos : Pos} {e : Expr} {is : List Nat} {f : St → Option PV} (hk : 1 ≤ k) (ok : EnvOk env names) (hn : NamesAt names elts is) (he : EOk prog w H k env names e f)
    (hs : swapsWithSole [.Tuple elts kk p] e pos.line env = pure false := by rfl) (hw : swappedStores [.Tuple elts kk p] e env = pure none := by rfl) :
    SOk prog w H k env names (.Assign [.Tuple elts kk p] e pos) (fun σ => (f σ).bind fun d => (bindSeq elts.length is σ d).map .next) := by
  refine ⟨?_⟩
  intro A s base g σ o Q R F e' hQ
  obtain ⟨d, ed, e2⟩ := Option.bind_eq_some_iff.mp e'
  obtain ⟨σ', e3, rfl⟩ := Option.map_eq_some_iff.mp e2
  refine Assign_Tuple (he.out A s base g σ d _ R F ed fun v h1 t1 g1 T1 r1 => ?_) hs hw
  exact (Tg_tuple ok hn).out A _ base g1 σ σ' d v _ (R.less hk) (F.step T1) r1 e3 fun h2 t2 F2 => hQ .next h2 t2 g1 T1.sub (T1.base F.subB) ⟨rfl, F2⟩

theorem S_if {t : Expr} {a b : List Stmt} {pos : Pos} {ft : St → Option Bool} {fa fb : St → Option Out} (ht : TOk prog w H k env names t ft) (ha : XOk prog w H k env names a fa) (hb : XOk prog w H k env names b fb) :
    SOk prog w H k env names (.If t a b pos) (fun σ => match ft σ with | some true => fa σ | some false => fb σ | none => none) := by
  refine ⟨?_⟩
  intro A s base g σ o Q R F e hQ
  dsimp only at e
  cases hc : ft σ with
  | none => rw [hc] at e; cases e
  | some c =>
    rw [hc] at e
    refine wpAny_If (ht.out A s base g σ c _ R F hc fun h1 t1 g1 T1 => ?_)
    cases c with
    | true => exact ha.out A _ base g1 σ o _ R (F.step T1) e fun fl h2 t2 g2 S2 B2 O2 => hQ fl h2 t2 g2 (T1.sub.trans S2) (fun b x eb n => B2 b x eb (T1.base F.subB b x eb n)) O2
    | false => exact hb.out A _ base g1 σ o _ R (F.step T1) e fun fl h2 t2 g2 S2 B2 O2 => hQ fl h2 t2 g2 (T1.sub.trans S2) (fun b x eb n => B2 b x eb (T1.base F.subB b x eb n)) O2
theorem S_ret {e : Expr} {pos : Pos} {f : St → Option PV} (he : EOk prog w H k env names e f) : SOk prog w H k env names (.Return (some e) pos) (fun σ => (f σ).map .ret) := by
  refine ⟨?_⟩
  intro A s base g σ o Q R F e' hQ
  obtain ⟨d, ed, rfl⟩ := Option.map_eq_some_iff.mp e'
  refine wpAny_Return_some (he.out A s base g σ d _ R F ed fun v h1 t1 g1 T1 r1 => ?_)
  exact hQ _ h1 t1 g1 T1.sub (T1.base F.subB) ⟨v, rfl, r1, fun b o eb => T1.ext _ _ (F.subB _ _ eb), T1.into⟩
theorem S_break {pos : Pos} : SOk prog w H k env names (.Break pos) (fun σ => some (.brk σ)) := by
  refine ⟨?_⟩
  intro A s base g σ o Q R F e hQ
  cases e
  show wpAny (model prog w) A (do standAt pos; pure Flow.brk) Q NoE s
  exact wpAny_bind (wpAny_standAt (wpAny_pure (hQ .brk s.heap s.toks g (Sub.refl g) (fun _ _ _ n => n) ⟨rfl, F⟩)))

theorem S_append {x : Str} {p apos pos spos : Pos} {e : Expr} {f : St → Option PV} (ok : EnvOk env names) (i : Nat) (hi : names[i]? = some (x, SK.loc)) (he : EOk prog w H k env names e f)
    (hline : (apos.endLine == pos.line) = true := by rfl) (hint : interactive env = false := by rfl) (hst : notStar e = true := by rfl) :
    SOk prog w H k env names (.Expr (.Call (.Attribute (.Name x p) "append" apos) [e] [] pos) spos) (fun σ => match f σ, σ[i]? with
      | some d, some (.own xs) => if xs.length < lim then some (.next (σ.set i (.own (xs ++ [d])))) else none
      | _, _ => none) := by
  refine ⟨?_⟩
  intro A s base g σ o Q R F e' hQ
  have htree : backTo pos (starEach [e] env) = [(false, eval e env)] := by rw [star_cons hst]; rfl
  dsimp only at e'
  split at e'
  · rename_i d xs ed hown
    split at e'
    · rename_i hlen
      cases e'
      obtain ⟨m, ad, X⟩ := F
      obtain ⟨_, hm, ba, ga, vs, n, ho, rs⟩ := X.slot i x .loc _ hi hown
      refine wpAny_Expr ?_ hint rfl
      refine wpAny_Call_append rfl ?_ hline htree ?_
      · rw [htree]; rfl
      refine ld_name ok (List.mem_of_getElem? hi) X.ns (show Holds s.heap m x (.ref (ad i)) .loc from hm) ?_
      refine ⟨ad i, vs.toArray, rfl, ⟨_, n, ho, rfl, rfl, rfl⟩, ?_⟩
      refine he.out A s base g σ d _ R ⟨m, ad, X⟩ ed fun v h1 t1 g1 T1 r1 => ?_
      have X1 := X.step T1
      have o1 : h1.get? (ad i) = some (listObj vs n) := T1.ext _ _ ho
      refine wpAny_list_append_plain (s := { s with heap := h1, toks := t1 }) ⟨n, o1⟩ (fun h2 hl hs => ?_) (by rw [List.size_toArray, rs.len, sizeLine_eq]; rw [lim_eq] at hlen; omega)
      obtain ⟨n2, hl⟩ := hl
      have e1 : vs.toArray.push v = (vs ++ [v]).toArray := by simp
      rw [e1] at hl
      exact hQ .next h2 t1 g1 T1.sub (T1.base X.subB) ⟨rfl, m, ad, X1.setA hown hl hs (Rds.append (Rds.mono T1.sub _ _ rs) (Rds.cons r1 Rds.nil))⟩
    · cases e'
  · cases e'
end
end
end Mine
end
section
open PySem PySem.W PySem.Calls PyProof.Rows
set_option Elab.async false
set_option maxRecDepth 100000
namespace Mine
noncomputable section

noncomputable def over (wr : List Addr) (h : Heap) (base : View) : View := fun b => if b ∈ wr then h.get? b else base b
theorem over_in {wr : List Addr} {h : Heap} {base : View} {b : Addr} (hb : b ∈ wr) : over wr h base b = h.get? b := if_pos hb
theorem over_out {wr : List Addr} {h : Heap} {base : View} {b : Addr} (hb : b ∉ wr) : over wr h base b = base b := if_neg hb
noncomputable def Alive (wr : List Addr) (h : Heap) : Prop := ∀ b ∈ wr, ∃ o, h.get? b = some o
noncomputable def Unseen (wr : List Addr) (g : View) : Prop := ∀ b ∈ wr, g b = none
noncomputable def But (wr : List Addr) (h h' : Heap) : Prop := ∀ b o, b ∉ wr → h.get? b = some o → h'.get? b = some o

section
variable {H base g : View} {L : Addr} {names : Names} {σ : St} {h h' : Heap} {m : Str → Option Value} {ad : Nat → Addr} {wr : List Addr}

theorem over_enter {g' : View} (X : FCore H L names base σ g h m ad) (T : Step h g h' g') (hn : ∀ b ∈ wr, h.get? b = none) : FRel H L names (over wr h' base) σ g' h' := by
  have out : ∀ b o, h.get? b = some o → b ∉ wr := fun b o q hb => by rw [hn b hb] at q; cases q
  have Y := X.step T
  obtain ⟨oL, es, ep, hL, hdL, r3⟩ := X.ns
  refine ⟨m, ad, Y.ns, Y.home, (over_out (out _ _ hL)).trans X.baseL, Y.gL, fun b o q => ?_, Y.subG, Y.len, ?_, ?_, ?_, Y.apart⟩
  · by_cases hb : b ∈ wr
    · rw [over_in hb] at q; exact q
    · rw [over_out hb] at q; exact Y.subB _ _ q
  · intro i x k sl hi hs
    have Z := Y.slot i x k sl hi hs
    have Z0 := X.slot i x k sl hi hs
    cases sl with
    | empty => trivial
    | val d => exact Z
    | own xs =>
      obtain ⟨_, _, _, _, vs0, n0, ho0, _⟩ := Z0
      obtain ⟨a1, a2, a3, a4⟩ := Z
      exact ⟨a1, a2, (over_out (out _ _ ho0)).trans a3, a4⟩
    | self a0 C ns xs =>
      obtain ⟨_, _, _, _, dx0, es0, n0, ho0, _, _, _, hd0, _⟩ := Z0
      obtain ⟨a1, a2, a3, a4, dx, es, n, ho, hdL, hb', hg', hd, r⟩ := Z
      have hdx : dx = dx0 := by
        have e1 := T.ext _ _ ho0
        rw [ho] at e1
        have := congrArg (fun o : Option Obj => o.bind Obj.dict) e1
        simpa using this
      subst hdx
      exact ⟨a1, a2, (over_out (out _ _ ho0)).trans a3, a4, dx, es, n, ho, hdL, (over_out (out _ _ hd0)).trans hb', hg', hd, r⟩
  · intro x c hm
    obtain ⟨hb, hg, o, v, ho, hd⟩ := X.cells x c hm
    exact ⟨(over_out (out _ _ ho)).trans hb, T.fresh _ _ ho hg, o, v, T.ext _ _ ho, hd⟩
  · intro x c hm
    obtain ⟨o, q⟩ := X.fars x c hm
    exact ⟨o, by rw [over_out (out _ _ (X.subB _ _ q))]; exact q⟩

theorem over_turn (F : FRel H L names (over wr h base) σ g h) (un : Unseen wr g) (hf : ∀ x c, (x, SK.far c) ∈ names → c ∉ wr) (al : Alive wr h) (bt : But wr h h') :
    FRel H L names (over wr h' base) σ g h' := by
  obtain ⟨m, ad, X⟩ := F
  have out : ∀ b, over wr h base b = none → b ∉ wr := fun b q hb => by
    rw [over_in hb] at q
    obtain ⟨o, e⟩ := al b hb
    rw [e] at q; cases q
  have nn : ∀ b, over wr h base b = none → over wr h' base b = none := fun b q => by
    have hb := out b q
    rw [over_out hb] at q ⊢; exact q
  obtain ⟨oL, es, ep, hL, hdL, r3⟩ := X.ns
  refine ⟨m, ad, ⟨oL, es, ep, bt _ _ (out _ X.baseL) hL, hdL, r3⟩, X.home, nn _ X.baseL, X.gL, fun b o q => ?_, fun b o q => ?_, X.len, ?_, ?_, ?_, X.apart⟩
  · by_cases hb : b ∈ wr
    · rw [over_in hb] at q; exact q
    · rw [over_out hb] at q
      exact bt _ _ hb (X.subB b o (by rw [over_out hb]; exact q))
  · exact bt _ _ (fun hb => by rw [un b hb] at q; cases q) (X.subG _ _ q)
  · intro i x k sl hi hs
    have Z := X.slot i x k sl hi hs
    cases sl with
    | empty => trivial
    | val d =>
      obtain ⟨v, hv, r⟩ := Z
      refine ⟨v, ?_, r⟩
      cases k with
      | loc => exact hv
      | own c =>
        obtain ⟨o, ho, hd⟩ := hv
        exact ⟨o, bt _ _ (out _ (X.cells x c (List.mem_of_getElem? hi)).1) ho, hd⟩
      | far c =>
        obtain ⟨o, ho, hd⟩ := hv
        exact ⟨o, bt _ _ (hf x c (List.mem_of_getElem? hi)) ho, hd⟩
    | own xs =>
      obtain ⟨a1, a2, a3, a4, vs, n, ho, r⟩ := Z
      exact ⟨a1, a2, nn _ a3, a4, vs, n, bt _ _ (out _ a3) ho, r⟩
    | self a0 C ns xs =>
      obtain ⟨a1, a2, a3, a4, dx, es, n, ho, hdL, hb', hg', hd, r⟩ := Z
      exact ⟨a1, a2, nn _ a3, a4, dx, es, n, bt _ _ (out _ a3) ho, hdL, nn _ hb', hg', bt _ _ (out _ hb') hd, r⟩
  · intro x c hm
    obtain ⟨hb, hg, o, v, ho, hd⟩ := X.cells x c hm
    exact ⟨nn _ hb, hg, o, v, bt _ _ (out _ hb) ho, hd⟩
  · intro x c hm
    obtain ⟨o, q⟩ := X.fars x c hm
    have hb := hf x c hm
    rw [over_out hb] at q
    exact ⟨o, by rw [over_out hb]; exact q⟩

theorem over_leave {h0 : Heap} (F : FRel H L names (over wr h0 base) σ g h) (hf : ∀ x c, (x, SK.far c) ∈ names → ∃ o, base c = some o) (hn : ∀ b ∈ wr, base b = none) : FRel H L names base σ g h := by
  obtain ⟨m, ad, X⟩ := F
  have nn : ∀ b o, h.get? b = some o → over wr h0 base b = none → base b = none := fun b o e q => by
    by_cases hb : b ∈ wr
    · exact hn b hb
    · rw [over_out hb] at q; exact q
  obtain ⟨oL, es, ep, hL, hdL, r3⟩ := id X.ns
  refine ⟨m, ad, X.ns, X.home, nn _ _ hL X.baseL, X.gL, fun b o q => ?_, X.subG, X.len, ?_, ?_, hf, X.apart⟩
  · have hb : b ∉ wr := fun hb => by rw [hn b hb] at q; cases q
    exact X.subB b o (by rw [over_out hb]; exact q)
  · intro i x k sl hi hs
    have Z := X.slot i x k sl hi hs
    cases sl with
    | empty => trivial
    | val d => exact Z
    | own xs =>
      obtain ⟨a1, a2, a3, a4, vs, n, ho, r⟩ := Z
      exact ⟨a1, a2, nn _ _ ho a3, a4, vs, n, ho, r⟩
    | self a0 C ns xs =>
      obtain ⟨a1, a2, a3, a4, dx, es, n, ho, hdL, hb', hg', hd, r⟩ := Z
      exact ⟨a1, a2, nn _ _ ho a3, a4, dx, es, n, ho, hdL, nn _ _ hd hb', hg', hd, r⟩
  · intro x c hm
    obtain ⟨hb, hg, o, v, ho, hd⟩ := X.cells x c hm
    exact ⟨nn _ _ ho hb, hg, o, v, ho, hd⟩
theorem over_same (S : Sub (over wr h base) h'.get?) (al : Alive wr h) : over wr h' base = over wr h base ∧ Alive wr h' := by
  have q : ∀ b ∈ wr, h'.get? b = h.get? b := fun b hb => by
    obtain ⟨o, e⟩ := al b hb
    rw [e]; exact S b o (by rw [over_in hb]; exact e)
  refine ⟨funext fun b => ?_, fun b hb => ?_⟩
  · by_cases hb : b ∈ wr
    · rw [over_in hb, over_in hb]; exact q b hb
    · rw [over_out hb, over_out hb]
  · obtain ⟨o, e⟩ := al b hb
    exact ⟨o, (q b hb).trans e⟩
end

structure Turns (prog : Program) (w : World) (H : View) (A : Around) (env : Env) (names : Names) (target : Expr) (bind : St → PV → Option St) (g₀ : View) (I : Addr) (wr : List Addr) (ds : List PV) (Now : Nat → Heap → Prop) : Prop where
  frame : ∀ i h h', Now i h → Sub g₀ h.get? → Sub g₀ h'.get? → (∀ b ∈ wr, ∀ o, h.get? b = some o → h'.get? b = some o) → Now i h'
  alive : ∀ i h, Now i h → Alive wr h
  item : ∀ i (s : Shared) (base g : View) (σ σ' : St) (d : PV) (Q : Shared → Prop), Now i s.heap → Sub g₀ g → Unseen wr g → (∀ x c, (x, SK.far c) ∈ names → c ∉ wr) → FRel H env.locals names (over wr s.heap base) σ g s.heap → ds[i]? = some d → bind σ d = some σ' →
    (∀ h' tk, Now (i + 1) h' → FRel H env.locals names (over wr h' base) σ' g h' → Q { s with heap := h', toks := tk }) →
    wpAny (model prog w) A (pyNext (.ref I)) (fun r s₁ => match r with
      | none => False
      | some v => wpAny (model prog w) A (letOwnedTupleGo target (.ref I) v) (fun _ s₂ => wpAny (model prog w) A (assign target env v) (fun _ s₃ => Q s₃) NoE s₂) NoE s₁) NoE s
  done : ∀ (s : Shared) (Q : Shared → Prop), Now ds.length s.heap → (∀ h' tk, But wr s.heap h' → Q { s with heap := h', toks := tk }) →
    wpAny (model prog w) A (pyNext (.ref I)) (fun r s₁ => match r with
      | none => Q s₁
      | some _ => False) NoE s
  self : ∀ i (s : Shared) (Q : Value → Shared → Prop), Now i s.heap → Q (.ref I) s → wpAny (model prog w) A (pyIter (.ref I)) Q NoE s

noncomputable def notOwner (nm : String) : Bool := !["enumerate", "zip", "dict_itemiterator", "dict_reverseitemiterator", "odict_iterator", "itertools.zip_longest", "itertools.pairwise"].contains nm
noncomputable def PWalk (prog : Program) (w : World) (A : Around) (g₀ : View) (I : Addr) (wr : List Addr) (ds : List PV) (Now : Nat → Heap → Prop) : Prop :=
  ∃ fp P, Walks prog w A I fp wr ds.length P Now ∧ (∀ b ∈ fp, b ∈ wr ∨ ∃ o, g₀ b = some o) ∧ (∀ i v d, P i v → ds[i]? = some d → Rd g₀ d v) ∧ (∀ i h, Now i h → Alive wr h) ∧ ∀ i h, Now i h → ∃ o nm, h.get? I = some o ∧ o.cls = .type nm ∧ notOwner nm = true

section
variable {prog : Program} {w : World} {H : View} {k : Nat} {env : Env} {names : Names}

theorem letgo_none {A : Around} {E : Value → Shared → Prop} {s : Shared} {target : Expr} {I : Addr} {v : Value} {o : Obj} {nm : String} {Q : Unit → Shared → Prop} (ho : s.heap.get? I = some o) (hc : o.cls = .type nm) (hn : notOwner nm = true) (hQ : Q () s) :
    wpAny (model prog w) A (letOwnedTupleGo target (.ref I) v) Q E s := by
  have hf : (["enumerate", "zip", "dict_itemiterator", "dict_reverseitemiterator", "odict_iterator", "itertools.zip_longest", "itertools.pairwise"].contains nm) = false := by
    unfold notOwner at hn; simpa using hn
  have go : ∀ a, wpAny (model prog w) A (do
      let o ← load I
      match o.cls, o.data with
      | .type n, .fields vs =>
        if ["enumerate", "zip", "dict_itemiterator", "dict_reverseitemiterator", "odict_iterator", "itertools.zip_longest", "itertools.pairwise"].contains n && vs[0]? == some (rawInt a) then
          rule "for.unpacks-the-owned-tuple"
          updateField I 0 .none
      | _, _ => pure ()) Q E s := by
    intro a
    refine wpAny_bind (wpAny_load ho ?_)
    rw [hc]
    cases hd : o.data with
    | fields vs => dsimp only; rw [hf, Bool.false_and, if_neg Bool.false_ne_true]; exact wpAny_pure hQ
    | _ => exact wpAny_pure hQ
  cases target <;> first
    | exact wpAny_pure hQ
    | (cases v <;> first | exact wpAny_pure hQ | exact go _)

theorem turns_of_walk {A : Around} {target : Expr} {bind : St → PV → Option St} {g₀ : View} {I : Addr} {wr : List Addr} {ds : List PV} {Now : Nat → Heap → Prop} (R : Room 1 A) (W : PWalk prog w A g₀ I wr ds Now) (T : TgOk prog w H env names target bind) :
    Turns prog w H A env names target bind g₀ I wr ds Now := by
  obtain ⟨fp, P, W, hfp, hP, al, cl⟩ := W
  have frame : ∀ i h h', Now i h → Sub g₀ h.get? → Sub g₀ h'.get? → (∀ b ∈ wr, ∀ o, h.get? b = some o → h'.get? b = some o) → Now i h' := fun i h h' hN S S' hw => by
    refine W.frame i h h' hN fun b hb o e => ?_
    rcases hfp b hb with h1 | ⟨o', h1⟩
    · exact hw b h1 o e
    · have := S _ _ h1
      rw [e] at this; cases this
      exact S' _ _ h1
  refine ⟨frame, al, ?_, ?_, fun i s Q hN hQ => W.self i s Q _ hN hQ⟩
  · intro i s base g σ σ' d Q hN Sg un hf F hd hb hQ
    have hlt : i < ds.length := (List.getElem?_eq_some_iff.mp hd).1
    refine W.item i s _ _ hlt hN fun v h1 t1 hv hN1 bt => ?_
    have F1 : FRel H env.locals names (over wr h1 base) σ g h1 := over_turn F un hf (al _ _ hN) bt
    obtain ⟨o, nm, ho, hc, hn⟩ := cl _ _ hN1
    refine letgo_none (s := { s with heap := h1, toks := t1 }) ho hc hn ?_
    refine T.out A { s with heap := h1, toks := t1 } _ g σ σ' d v _ R F1 (Rd.mono Sg _ _ (hP i v d hv hd)) hb fun h2 t2 F2 => ?_
    obtain ⟨e, al2⟩ := over_same F2.subB (al _ _ hN1)
    refine hQ h2 t2 (frame _ _ _ hN1 (Sg.trans F1.subG) (Sg.trans F2.subG) fun b hb o e => F2.subB _ _ (by rw [over_in hb]; exact e)) ?_
    rw [e]; exact F2
  · intro s Q hN hQ
    exact W.done s _ _ hN fun h1 t1 bt => hQ h1 t1 bt

noncomputable def TgK (prog : Program) (w : World) (H : View) (zip : Bool) (env : Env) (names : Names) (target : Expr) (bind : St → PV → Option St) : Prop :=
  if zip then ∃ elts kk p is, target = .Tuple elts kk p ∧ EnvOk env names ∧ NamesAt names elts is ∧ bind = bindSeq elts.length is else TgOk prog w H env names target bind

noncomputable def ItOk (prog : Program) (w : World) (H : View) (k : Nat) (zip : Bool) (env : Env) (names : Names) (e : Expr) (f : St → Option (List PV)) : Prop := Box (
  ∀ (A : Around) (s : Shared) (base g : View) (σ : St) (ds : List PV) (Q : Value → Shared → Prop), Room k A → FRel H env.locals names base σ g s.heap → f σ = some ds →
    (∀ I wr h' tk g' Now, Step s.heap g h' g' → (∀ b ∈ wr, s.heap.get? b = none ∧ g' b = none) → Now 0 h' →
      (∀ env' names' target bind, TgK prog w H zip env' names' target bind → Turns prog w H A env' names' target bind g' I wr ds Now) → Q (.ref I) { s with heap := h', toks := tk }) →
    wpAny (model prog w) A (eval e env) (fun xv s₁ => wpAny (model prog w) A (pyIter xv) Q NoE s₁) NoE s)

noncomputable def forV (bind : St → PV → Option St) (fb : St → Option Out) : St → List PV → Option Out
  | σ, [] => some (.next σ)
  | σ, d :: ds => match bind σ d with
    | none => none
    | some σ1 => match fb σ1 with
      | some (.next σ2) => forV bind fb σ2 ds
      | some (.cont σ2) => forV bind fb σ2 ds
      | some (.brk σ2) => some (.next σ2)
      | some (.ret v) => some (.ret v)
      | none => none

theorem loop_ok {A : Around} {target : Expr} {body : List Stmt} {bind : St → PV → Option St} {fb : St → Option Out} {g₀ : View} {I : Addr} {wr : List Addr} {ds : List PV} {Now : Nat → Heap → Prop} (R : Room k A)
    (T : Turns prog w H A env names target bind g₀ I wr ds Now) (hb : XOk prog w H k env names body fb) (base : View) (hf : ∀ x c, (x, SK.far c) ∈ names → ∃ o, base c = some o) (hn : ∀ b ∈ wr, base b = none) (s : Shared) (g : View) (σ : St) (o : Out)
    (Sg : Sub g₀ g) (un : Unseen wr g) (F : FRel H env.locals names (over wr s.heap base) σ g s.heap) (hN : Now 0 s.heap) (e : forV bind fb σ ds = some o) (RR : Result → Shared → Prop)
    (hQ : ∀ fl h' tk g', Sub g g' → (∀ b x, base b = some x → g b = none → g' b = none) → OutOk H env.locals names base o fl h' g' → RR (.ok fl) { s with heap := h', toks := tk }) :
    codeAny (model prog w) A (.forLoop target (.ref I) body [] env) RR s := by
  have hfw : ∀ x c, (x, SK.far c) ∈ names → c ∉ wr := fun x c hm hb => by
    obtain ⟨o, e⟩ := hf x c hm
    rw [hn c hb] at e; cases e
  refine codeAny_forLoop_any (fun n s' => ∃ i h tk g' σ', s' = { s with heap := h, toks := tk } ∧ n = ds.length - i ∧ i ≤ ds.length ∧ Now i h ∧ Sub g g' ∧ (∀ b x, base b = some x → g b = none → g' b = none) ∧ Unseen wr g' ∧
      FRel H env.locals names (over wr h base) σ' g' h ∧ forV bind fb σ' (ds.drop i) = some o) ?_ ds.length ⟨0, s.heap, s.toks, g, σ, rfl, by omega, Nat.zero_le _, hN, Sub.refl g, fun _ _ _ n => n, un, F, by simpa using e⟩
  rintro n s' ⟨i, h, tk, g', σ', rfl, rfl, hi, hN', S', B', un', F', e'⟩
  by_cases hlt : i < ds.length
  · have hd : ds.drop i = ds[i] :: ds.drop (i + 1) := List.drop_eq_getElem_cons hlt
    rw [hd, forV] at e'
    cases eb : bind σ' ds[i] with
    | none => rw [eb] at e'; cases e'
    | some σ1 =>
      rw [eb] at e'
      dsimp only at e'
      refine wpAny_mono (T.item i { s with heap := h, toks := tk } base g' σ' σ1 ds[i] (fun s₃ => wpAny (model prog w) A (execs body env) (fun f s₄ => match f with
            | .next | .cont => ∃ m, m < ds.length - i ∧ ∃ i h tk g' σ', s₄ = { s with heap := h, toks := tk } ∧ m = ds.length - i ∧ i ≤ ds.length ∧ Now i h ∧ Sub g g' ∧ (∀ b x, base b = some x → g b = none → g' b = none) ∧ Unseen wr g' ∧ FRel H env.locals names (over wr h base) σ' g' h ∧ forV bind fb σ' (ds.drop i) = some o
            | .brk => RR (.ok .next) s₄
            | .ret v => RR (.ok (.ret v)) s₄) NoE s₃) hN' (Sg.trans S') un' hfw F' (List.getElem?_eq_getElem hlt) eb fun h1 t1 hN1 F1 => ?_) (fun r s₁ hr => ?_) fun _ _ x => x.elim
      · have al1 := T.alive _ _ hN1
        cases eo : fb σ1 with
        | none => rw [eo] at e'; cases e'
        | some o1 =>
          rw [eo] at e'
          refine hb.out A { s with heap := h1, toks := t1 } _ g' σ1 o1 _ R F1 eo fun fl h2 t2 g2 S2 B2 O2 => ?_
          have un2 : Sub (over wr h1 base) h2.get? → Unseen wr g2 := fun _ b hb => by
            obtain ⟨o', eo'⟩ := al1 b hb
            exact B2 b o' (by rw [over_in hb]; exact eo') (un' b hb)
          have base2 : ∀ b x, base b = some x → g' b = none → g2 b = none := fun b x eb' n => B2 b x (by rw [over_out (fun hb => by rw [hn b hb] at eb'; cases eb')]; exact eb') n
          have next : ∀ σ2, FRel H env.locals names (over wr h1 base) σ2 g2 h2 → forV bind fb σ2 (ds.drop (i + 1)) = some o → ∃ m, m < ds.length - i ∧ ∃ i h tk g' σ', ({ s with heap := h2, toks := t2 } : Shared) = { s with heap := h, toks := tk } ∧ m = ds.length - i ∧ i ≤ ds.length ∧ Now i h ∧ Sub g g' ∧ (∀ b x, base b = some x → g b = none → g' b = none) ∧ Unseen wr g' ∧ FRel H env.locals names (over wr h base) σ' g' h ∧ forV bind fb σ' (ds.drop i) = some o := by
            intro σ2 F2 e2
            obtain ⟨eq, al2⟩ := over_same F2.subB al1
            refine ⟨ds.length - (i + 1), by omega, i + 1, h2, t2, g2, σ2, rfl, rfl, hlt, ?_, S'.trans S2, fun b x eb' n => base2 b x eb' (B' b x eb' n), un2 F2.subB, ?_, e2⟩
            · exact T.frame _ _ _ hN1 ((Sg.trans S').trans F1.subG) (((Sg.trans S').trans S2).trans F2.subG) fun b hb o eo' => F2.subB _ _ (by rw [over_in hb]; exact eo')
            · rw [eq]; exact F2
          cases o1 with
          | next σ2 => obtain ⟨rfl, F2⟩ := O2; exact next σ2 F2 e'
          | cont σ2 => obtain ⟨rfl, F2⟩ := O2; exact next σ2 F2 e'
          | brk σ2 =>
            obtain ⟨rfl, F2⟩ := O2
            cases e'
            exact hQ .next h2 t2 g2 (S'.trans S2) (fun b x eb' n => base2 b x eb' (B' b x eb' n)) ⟨rfl, over_leave F2 hf hn⟩
          | ret v =>
            obtain ⟨u, rfl, r, Sb, Sv⟩ := O2
            cases e'
            exact hQ _ h2 t2 g2 (S'.trans S2) (fun b x eb' n => base2 b x eb' (B' b x eb' n)) ⟨u, rfl, r, fun b o eb' => Sb b o (by rw [over_out (fun hb => by rw [hn b hb] at eb'; cases eb')]; exact eb'), Sv⟩
      · cases r with
        | none => exact hr.elim
        | some v => exact wpAny_mono hr (fun _ s₂ h₂ => wpAny_mono h₂ (fun _ s₃ h₃ => wpAny_mono h₃ (fun _ _ x => x) fun _ _ x => x.elim) fun _ _ x => x.elim) fun _ _ x => x.elim
  · have hi' : i = ds.length := by omega
    subst hi'
    rw [List.drop_length, forV] at e'
    cases e'
    refine wpAny_mono (T.done { s with heap := h, toks := tk } (fun s₁ => wpAny (model prog w) A (execs [] env) (fun f s₃ => RR (.ok f) s₃) NoE s₁) hN' fun h1 t1 bt => ?_) (fun r s₁ hr => ?_) fun _ _ x => x.elim
    · refine wpAny_execs_nil ?_
      have F1 := over_leave (over_turn F' un' hfw (T.alive _ _ hN') bt) hf hn
      exact hQ .next h1 t1 g' S' B' ⟨rfl, F1⟩
    · cases r with
      | none => exact wpAny_mono hr (fun _ _ x => x) fun _ _ x => x.elim
      | some v => exact hr.elim

theorem S_for {target iter : Expr} {body : List Stmt} {pos : Pos} {zip : Bool} {fi : St → Option (List PV)} {bind : St → PV → Option St} {fb : St → Option Out} (hi : ItOk prog w H k zip env names iter fi) (ht : TgK prog w H zip env names target bind) (hb : XOk prog w H k env names body fb)
    (hs : ∀ x, foldedSetIterable iter env x = pure x := by intro _; rfl) : SOk prog w H k env names (.For target iter body [] pos) (fun σ => (fi σ).bind fun ds => forV bind fb σ ds) := by
  refine ⟨?_⟩
  intro A s base g σ o Q R F e hQ
  obtain ⟨ds, ed, e⟩ := Option.bind_eq_some_iff.mp e
  obtain ⟨m, ad, X⟩ := F
  refine wpAny_For (hi.out A s base g σ ds _ R ⟨m, ad, X⟩ ed fun I wr h1 t1 g1 Now T1 hw hN TT => ?_) hs
  have F1 := over_enter X T1 fun b hb' => (hw b hb').1
  have bn : ∀ b ∈ wr, base b = none := fun b hb' => by
    cases q : base b with
    | none => rfl
    | some o => have := X.subB _ _ q; rw [(hw b hb').1] at this; cases this
  refine codeAny_mono (loop_ok (s := { s with heap := h1, toks := t1 }) R (TT _ _ _ _ ht) hb base X.fars bn g1 σ o (Sub.refl g1) (fun b hb' => (hw b hb').2) F1 hN e (fun r s' => match r with | .ok f => Q f s' | .error _ => False) fun fl h2 t2 g2 S2 B2 O2 => ?_) (fun r s' hr => ?_)
  · exact hQ fl h2 t2 g2 (T1.sub.trans S2) (fun b x eb n => B2 b x eb (T1.base X.subB b x eb n)) O2
  · cases r with
    | ok f => exact hr
    | error e => exact hr.elim
end
end
end Mine
end
section
open PySem PySem.W PySem.Calls PyProof.Rows
set_option Elab.async false
set_option maxRecDepth 100000
namespace Mine
noncomputable section

noncomputable def NsV (H : View) (a : Addr) (m : Str → Option Value) : Prop := ∃ o es ep, H a = some o ∧ o.data = .dict es ep ∧ StrKeys es ∧ ∀ name, nsFind es name = m name
theorem NsV.at {H g : View} {a : Addr} {m : Str → Option Value} {h : Heap} (x : NsV H a m) (S : Sub H g) (S' : Sub g h.get?) : h.Ns a m := let ⟨o, es, ep, e, r⟩ := x; ⟨o, es, ep, S' _ _ (S _ _ e), r⟩
structure Globs (H : View) (mg mb : Str → Option Value) : Prop where
  g : NsV H mainGlobals mg
  b : NsV H builtinsNs mb

section
variable {prog : Program} {w : World} {H : View} {k : Nat} {env : Env} {names : Names} {mg mb : Str → Option Value}

theorem V_global {x : Str} {pos : Pos} {v : Value} (G : Globs H mg mb) (hk : env.scope.kind = .function) (hx : env.kindOf x = some .globalImplicit) (eg : env.globals = mainGlobals) (hv : mg x = some v) (hd : (x == ("__debug__" : Str)) = false := by decide) :
    VOk prog w H env names (.Name x pos) v := by
  refine ⟨?_⟩
  intro A s base g σ Q F hQ
  exact Name_function_global hk hx (loadGlobal_global (eg ▸ G.g.at F.home F.subG) hv hQ) hd
theorem V_builtin {x : Str} {pos : Pos} {v : Value} (G : Globs H mg mb) (hk : env.scope.kind = .function) (hx : env.kindOf x = some .globalImplicit) (eg : env.globals = mainGlobals) (eb : env.builtins = builtinsNs) (hn : mg x = none) (hv : mb x = some v) (hd : (x == ("__debug__" : Str)) = false := by decide) :
    VOk prog w H env names (.Name x pos) v := by
  refine ⟨?_⟩
  intro A s base g σ Q F hQ
  exact Name_function_global hk hx (loadGlobal_builtin (eg ▸ G.g.at F.home F.subG) hn (eb ▸ G.b.at F.home F.subG) hv hQ) hd
theorem E_global {x : Str} {pos : Pos} {v : Value} {d : PV} (hv : VOk prog w H env names (.Name x pos) v) (r : Rd H d v) : EOk prog w H k env names (.Name x pos) (fun _ => some d) := by
  refine ⟨?_⟩
  intro A s base g σ d' Q R F e hQ
  cases e
  exact hv.out A s base g σ _ F (hQ v s.heap s.toks g (.refl F.subG) (Rd.mono F.home _ _ r))

theorem evalArgs_A {M : Model} {A : Around} {E : Value → Shared → Prop} {s : Shared} {f : Value} {pos : Pos} {es : List Expr} {Q : Args → Shared → Prop} (hp : backTo pos (starEach es env) = [] ∨ ∃ x r, backTo pos (starEach es env) = (false, x) :: r)
    (h : wpAny M A (spliced (backTo pos (starEach es env))) (fun vs s' => Q ⟨vs, []⟩ s') E s) : wpAny M A (evalArgs f true (backTo pos (starEach es env)) []) Q E s := by
  rcases hp with e | ⟨x, r, e⟩
  · rw [e] at h ⊢
    unfold evalArgs
    show wpAny M A (spliced [] >>= _) Q E s
    refine wpAny_bind (wpAny_mono h (fun vs s' h' => ?_) fun _ _ x => x)
    refine wpAny_bind (wpAny_pure ?_)
    refine wpAny_holding ?_
    exact wpAny_bind (wpAny_pure (wpAny_bind (wpAny_pure (wpAny_pure h'))))
  · rw [e] at h ⊢; exact evalArgs_plain h
noncomputable def PlainArgs (env : Env) (es : List Expr) : Prop := ∀ pos, (backTo pos (starEach es env)).any (·.1) = false ∧ (backTo pos (starEach es env) = [] ∨ ∃ x r, backTo pos (starEach es env) = (false, x) :: r)
theorem PlainArgs.nil : PlainArgs env [] := fun _ => ⟨rfl, .inl rfl⟩
theorem PlainArgs.cons {e : Expr} {es : List Expr} (h : PlainArgs env es) (he : notStar e = true := by rfl) : PlainArgs env (e :: es) := fun pos => by
  rw [star_cons he]
  refine ⟨?_, .inr ⟨_, _, rfl⟩⟩
  show (false || (backTo pos (starEach es env)).any (·.1)) = false
  rw [(h pos).1]; rfl

noncomputable def callf (F : List PV → Option PV) (fs : St → Option (List PV)) (σ : St) : Option PV := (fs σ).bind F

theorem arm_call (id : Str) (p : Pos) (args : List Expr) (pos : Pos) (env : Env) : eval (.Call (.Name id p) args [] pos) env = (do callWith pos (← eval (.Name id p) env) [] (backTo pos (starEach args env)) []) := rfl

theorem E_callB {x : Str} {p pos : Pos} {id : String} {es : List Expr} {F : List PV → Option PV} {fs : St → Option (List PV)} (hv : VOk prog w H env names (.Name x p) (.builtin id)) (hc : COk prog w H k (.builtin id) F) (ha : AOk prog w H k env names es fs) (hp : PlainArgs env es) :
    EOk prog w H k env names (.Call (.Name x p) es [] pos) (callf F fs) := by
  refine ⟨?_⟩
  intro A s base g σ d Q R Fr e hQ
  obtain ⟨ds, eds, e⟩ := Option.bind_eq_some_iff.mp e
  rw [arm_call]
  refine wpAny_bind (hv.out A s base g σ _ Fr ?_)
  refine callWith_builtin (hp pos).1 (evalArgs_A (hp pos).2 (ha.out A pos s base g σ ds _ R Fr eds fun vs h1 t1 g1 T1 r1 => ?_))
  exact hc.out A _ g1 vs ds d _ R (Fr.home.trans T1.sub) T1.into r1 e fun v h2 t2 g2 T2 r2 => hQ v h2 t2 g2 (T1.trans T2) r2
theorem It_list {e : Expr} {f : St → Option PV} (h : EOk prog w H k env names e f) (hk : 1 ≤ k) : ItOk prog w H k false env names e (fun σ => (f σ).bind asList) := by
  refine ⟨?_⟩
  intro A s base g σ ds Q R F e' hQ
  obtain ⟨d, ed, e2⟩ := Option.bind_eq_some_iff.mp e'
  cases d <;> simp only [asList] at e2 <;> first | (cases e2; done) | skip
  cases e2
  refine h.out A s base g σ _ _ R F ed fun v h1 t1 g1 T1 r1 => ?_
  obtain ⟨a, vs, n, rfl, ga, rs⟩ := rd_list.mp r1
  have ha := T1.into _ _ ga
  have hL : h1.IsList a vs.toArray := ⟨_, ha, rfl, n, rfl⟩
  refine wpAny_pyIter_list (s := { s with heap := h1, toks := t1 }) hL ?_
  have hne : a ≠ h1.objs.size := Nat.ne_of_lt (Heap.lt_size ha)
  have S1 := Step.keep T1.into (Ext.push h1 { cls := .type "list_iterator", data := .fields #[.ref a, .int 0 0] })
  have W := Walks.list (prog := prog) (w := w) R.hand h1.objs.size a hne vs.toArray
  refine hQ h1.objs.size [h1.objs.size] _ t1 g1 (fun i h => h.IsListIter h1.objs.size a i ∧ h.IsList a vs.toArray) (T1.trans S1) ?_ ⟨⟨_, Heap.get?_push_size _ rfl, rfl, rfl⟩, hL.push _⟩ ?_
  · intro b hb
    rw [List.mem_singleton.mp hb]
    exact ⟨none_at T1.ext, view_at T1.into⟩
  · intro env' names' target bind hT
    refine turns_of_walk (R.less hk) ⟨_, _, by rw [← rs.len]; simpa using W, ?_, ?_, ?_, ?_⟩ hT
    · intro b hb
      simp at hb
      rcases hb with rfl | rfl
      · exact .inl (by simp)
      · exact .inr ⟨_, ga⟩
    · intro i v d hv hd
      obtain ⟨v', hv', r⟩ := rs.get hd
      have : vs[i]? = some v := by simpa using hv
      rw [hv'] at this; cases this; exact r
    · rintro i h ⟨⟨o, ho, _⟩, _⟩ b hb
      rw [List.mem_singleton.mp hb]; exact ⟨o, ho⟩
    · rintro i h ⟨⟨o, ho, hc, _⟩, _⟩
      exact ⟨o, _, ho, hc, by decide⟩
theorem It_new {e : Expr} {f : St → Option (List PV)} (h : LOk prog w H k env names e f) (hk : 1 ≤ k) : ItOk prog w H k false env names e f := by
  have q := It_list (E_new h) hk
  refine ⟨?_⟩
  intro A s base g σ ds Q R F e' hQ
  exact q.out A s base g σ ds Q R F (by dsimp only; rw [e']; rfl) hQ
noncomputable def signs : PV → Option (List PV)
  | .str s => some (s.map fun c => .str [c])
  | _ => none
theorem It_str {e : Expr} {f : St → Option PV} (h : EOk prog w H k env names e f) (hk : 1 ≤ k) : ItOk prog w H k false env names e (fun σ => (f σ).bind signs) := by
  refine ⟨?_⟩
  intro A s base g σ ds Q R F e' hQ
  obtain ⟨d, ed, e2⟩ := Option.bind_eq_some_iff.mp e'
  cases d <;> simp only [signs] at e2 <;> first | (cases e2; done) | skip
  rename_i x
  cases e2
  refine h.out A s base g σ _ _ R F ed fun v h1 t1 g1 T1 r1 => ?_
  obtain ⟨t, rfl⟩ := rd_str.mp r1
  have hP : ∀ i v d, SignAt (txt x) i v → (x.map fun c => PV.str [c])[i]? = some d → Rd g1 d v := by
    rintro i v d ⟨c, u, hc, rfl⟩ hd
    have e1 : x[i]? = some c := by simpa [txt] using hc
    rw [List.getElem?_map, e1] at hd
    cases hd
    exact rd_str.mpr ⟨u, rfl⟩
  have hsz : (txt x).cps.size = (x.map fun c => PV.str [c]).length := by simp [txt]
  cases ha : (txt x).cps.all (· < 128)
  · refine wpAny_pyIter_wide (s := { s with heap := h1, toks := t1 }) ha ?_
    have W := Walks.strWide (prog := prog) (w := w) R.hand h1.objs.size (txt x) t
    rw [hsz] at W
    refine hQ h1.objs.size [h1.objs.size] _ t1 g1 _ (T1.trans (Step.keep T1.into (Ext.push h1 _))) (fun b hb => by rw [List.mem_singleton.mp hb]; exact ⟨none_at T1.ext, view_at T1.into⟩) ⟨_, Heap.get?_push_size _ rfl, rfl, rfl⟩ fun env' names' target bind hT =>
      turns_of_walk (R.less hk) ⟨_, _, W, fun b hb => .inl hb, hP, ?_, ?_⟩ hT
    · rintro i h ⟨o, ho, _⟩ b hb
      rw [List.mem_singleton.mp hb]; exact ⟨o, ho⟩
    · rintro i h ⟨o, ho, hc, _⟩
      exact ⟨o, _, ho, hc, by decide⟩
  · refine wpAny_pyIter_ascii (s := { s with heap := h1, toks := t1 }) ha ?_
    have W := Walks.strAscii (prog := prog) (w := w) R.hand h1.objs.size (txt x) t
    rw [hsz] at W
    refine hQ h1.objs.size [h1.objs.size] _ t1 g1 _ (T1.trans (Step.keep T1.into (Ext.push h1 _))) (fun b hb => by rw [List.mem_singleton.mp hb]; exact ⟨none_at T1.ext, view_at T1.into⟩) ⟨_, Heap.get?_push_size _ rfl, rfl, rfl⟩ fun env' names' target bind hT =>
      turns_of_walk (R.less hk) ⟨_, _, W, fun b hb => .inl hb, hP, ?_, ?_⟩ hT
    · rintro i h ⟨o, ho, _⟩ b hb
      rw [List.mem_singleton.mp hb]; exact ⟨o, ho⟩
    · rintro i h ⟨o, ho, hc, _⟩
      exact ⟨o, _, ho, hc, by decide⟩

theorem Step.push {h h1 h2 : Heap} {g g1 g2 : View} {o : Obj} (T1 : Step h g h1 g1) (T2 : Step (h1.push o) g1 h2 g2) : Step h g h2 g2 := T1.trans ((Step.keep T1.into (Ext.push h1 o)).trans T2)
noncomputable def rangeL (a b : Int) : List PV := (List.range (b - a).toNat).map fun i => .int (a + (i : Nat))
noncomputable def rangeV : List PV → Option (List PV)
  | [.int n] => if small n then some (rangeL 0 n) else none
  | [.int a, .int b] => if small a && small b then some (rangeL a b) else none
  | _ => none
theorem range_iter {A : Around} {s : Shared} {g : View} {r : Addr} {a b : Int} {t u v : Tok} {Q : Value → Shared → Prop} (R : Room 1 A) (S : Sub g s.heap.get?) (ha : small a = true) (hb : small b = true) (hr : IsRange s.heap r a b 1 t u v)
    (hQ : ∀ I wr h' Now, Step s.heap g h' g → (∀ b ∈ wr, s.heap.get? b = none ∧ g b = none) → Now 0 h' →
      (∀ env' names' target bind, TgK prog w H false env' names' target bind → Turns prog w H A env' names' target bind g I wr (rangeL a b) Now) → Q (.ref I) { s with heap := h' }) :
    wpAny (model prog w) A (pyIter (.ref r)) Q NoE s := by
  unfold small at ha hb
  have ha' := of_decide_eq_true ha
  have hb' := of_decide_eq_true hb
  rw [big_eq] at ha' hb'
  refine wpAny_pyIter_range hr (small_one (by omega) (by omega) (by omega) (by omega)) ?_
  have W := Walks.range (prog := prog) (w := w) R.hand s.heap.objs.size a 1 (rangeL a b).length
  have hl : ((rangeL a b).length : Int) = Builtin.Range.rangeSize a b 1 := by
    rw [rangeSize_one]
    simp only [rangeL, List.length_map, List.length_range]
    split <;> omega
  refine hQ s.heap.objs.size [s.heap.objs.size] _ _ (Step.keep S (Ext.push s.heap _)) (fun b hb => by rw [List.mem_singleton.mp hb]; exact ⟨none_at (Ext.refl _), view_at S⟩) ?_ fun env' names' target bind hT =>
      turns_of_walk R ⟨_, _, W, fun b hb => .inl hb, ?_, ?_, ?_⟩ hT
  · show IsRangeIter _ _ _ _ _
    rw [hl]
    have e1 : a + ((0 : Nat) : Int) * 1 = a := by simp
    have e2 : Builtin.Range.rangeSize a b 1 - ((0 : Nat) : Int) = Builtin.Range.rangeSize a b 1 := by simp
    rw [e1, e2]
    exact Heap.get?_push_size _ rfl
  · rintro i v d ⟨t, rfl⟩ hd
    simp only [rangeL, List.getElem?_map] at hd
    obtain ⟨j, hj, rfl⟩ := Option.map_eq_some_iff.mp hd
    obtain ⟨_, hj⟩ := List.getElem?_eq_some_iff.mp hj
    simp at hj
    subst hj
    exact rd_int.mpr ⟨t, by simp⟩
  · intro i h ho b hb
    rw [List.mem_singleton.mp hb]; exact ⟨_, ho⟩
  · intro i h ho
    exact ⟨_, _, ho, rfl, by decide⟩
theorem It_range {x : Str} {p pos : Pos} {es : List Expr} {fs : St → Option (List PV)} (hk : 1 ≤ k) (hv : VOk prog w H env names (.Name x p) (.type "range")) (ha : AOk prog w H k env names es fs) (hp : PlainArgs env es) :
    ItOk prog w H k false env names (.Call (.Name x p) es [] pos) (fun σ => (fs σ).bind rangeV) := by
  refine ⟨?_⟩
  intro A s base g σ ds Q R F e' hQ
  obtain ⟨as, eas, e2⟩ := Option.bind_eq_some_iff.mp e'
  rw [arm_call]
  refine wpAny_bind (hv.out A s base g σ _ F ?_)
  refine PyProof.Rows.callWith_type (hp pos).1 (evalArgs_A (hp pos).2 (ha.out A pos s base g σ as _ R F eas fun vs h1 t1 g1 T1 r1 => ?_))
  unfold rangeV at e2
  split at e2
  · rename_i n
    split at e2
    · rename_i hn
      cases e2
      rw [Rds] at r1
      obtain ⟨v, vs', rfl, r1, r2⟩ := r1
      rw [Rds] at r2; subst r2
      obtain ⟨t, rfl⟩ := rd_int.mp r1
      refine call_range_1 ?_
      refine range_iter (H := H) (g := g1) (R.less hk) (fun b o q => Ext.push _ _ _ _ (T1.into b o q)) (by unfold small; rw [big_eq]; decide) hn (IsRange.new ..) fun I wr h2 Now T2 hw hN TT => ?_
      dsimp only at T2 hw
      have T := Step.push T1 T2
      refine hQ I wr h2 _ g1 Now T (fun b hb => ⟨?_, (hw b hb).2⟩) hN TT
      cases q : s.heap.get? b with
      | none => rfl
      | some o => have q1 := (hw b hb).1; rw [Heap.get?_push_of_some _ (T1.ext _ _ q)] at q1; cases q1
    · cases e2
  · rename_i a b
    split at e2
    · rename_i hn
      rw [Bool.and_eq_true] at hn
      cases e2
      rw [Rds] at r1
      obtain ⟨v, vs', rfl, r1, r2⟩ := r1
      rw [Rds] at r2
      obtain ⟨v', vs'', rfl, r2, r3⟩ := r2
      rw [Rds] at r3; subst r3
      obtain ⟨t, rfl⟩ := rd_int.mp r1
      obtain ⟨t', rfl⟩ := rd_int.mp r2
      refine call_range_2 ?_
      refine range_iter (H := H) (g := g1) (R.less hk) (fun b o q => Ext.push _ _ _ _ (T1.into b o q)) hn.1 hn.2 (IsRange.new ..) fun I wr h2 Now T2 hw hN TT => ?_
      dsimp only at T2 hw
      have T := Step.push T1 T2
      refine hQ I wr h2 _ g1 Now T (fun b hb => ⟨?_, (hw b hb).2⟩) hN TT
      cases q : s.heap.get? b with
      | none => rfl
      | some o => have q1 := (hw b hb).1; rw [Heap.get?_push_of_some _ (T1.ext _ _ q)] at q1; cases q1
    · cases e2
  · cases e2

end
end
end Mine
end
section
open PySem PySem.W PySem.Calls PyProof.Rows
set_option Elab.async false
set_option maxRecDepth 100000
namespace Mine
noncomputable section

noncomputable def cenvOf (scope : Scope) (cl : List (Str × Addr)) (C : Addr) (env : Env) : Env :=
  { scope := relabel scope env, locals := C, globals := env.globals, cells := cellsFrom (C + 1) scope.names cl, qual := env.qual, func := none, code := env.code, frame := env.frame, builtins := env.builtins }
noncomputable abbrev cellObj : Obj := { cls := .type "cell", data := .cell none }

noncomputable def SrcOk (names : Names) (C : Addr) (nc : Bool) : Names → List (Option Nat) → Prop
  | [], [] => True
  | (_, .loc) :: r, none :: s => SrcOk names C nc r s
  | (_, .own c) :: r, none :: s => c = C + 1 ∧ nc = true ∧ SrcOk names C nc r s
  | (_, .far c) :: r, some j :: s => (∃ y sk, names[j]? = some (y, sk) ∧ (sk = .own c ∨ sk = .far c)) ∧ SrcOk names C nc r s
  | _, _ => False
noncomputable def enterf : List (Option Nat) → St → Option St
  | [], _ => some []
  | none :: r, σ => (enterf r σ).map (Slot.empty :: ·)
  | some j :: r, σ => match σ[j]? with
    | some (.val d) => (enterf r σ).map (Slot.val d :: ·)
    | _ => none

theorem enter_ok {H base g : View} {L : Addr} {names : Names} {σ : St} {h : Heap} {m : Str → Option Value} {ad : Nat → Addr} (X : FCore H L names base σ g h m ad) {C : Addr} {nc : Bool} {m' : Str → Option Value} :
    ∀ (names' : Names) (src : List (Option Nat)) (σ' : St), SrcOk names C nc names' src → enterf src σ = some σ' → σ'.length = names'.length ∧
      (∀ (i : Nat) x k sl, names'[i]? = some (x, k) → σ'[i]? = some sl → sl.isOwn = false ∧ ∀ base' ad', SlotOk C base' g h m' ad' x k sl) ∧
      (∀ x c, (x, SK.own c) ∈ names' → c = C + 1 ∧ nc = true) ∧ (∀ x c, (x, SK.far c) ∈ names' → ∃ o, h.get? c = some o)
  | [], [], σ', _, e => by
    simp only [enterf] at e; cases e
    refine ⟨rfl, fun i x k sl a => by simp at a, fun x c a => by simp at a, fun x c a => by simp at a⟩
  | (x, .loc) :: r, none :: s, σ', ok, e => by
    simp only [enterf] at e
    obtain ⟨τ, e2, rfl⟩ := Option.map_eq_some_iff.mp e
    obtain ⟨h1, h2, h3, h4⟩ := enter_ok X r s τ ok e2
    refine ⟨by simp [h1], fun i y k sl a b => ?_, fun y c a => ?_, fun y c a => ?_⟩
    · cases i with
      | zero => simp at a b; obtain ⟨rfl, rfl⟩ := a; subst b; exact ⟨rfl, fun _ _ => trivial⟩
      | succ i => exact h2 i y k sl (by simpa using a) (by simpa using b)
    · rcases List.mem_cons.mp a with q | q
      · cases q
      · exact h3 y c q
    · rcases List.mem_cons.mp a with q | q
      · cases q
      · exact h4 y c q
  | (x, .own c0) :: r, none :: s, σ', ok, e => by
    simp only [enterf] at e
    obtain ⟨τ, e2, rfl⟩ := Option.map_eq_some_iff.mp e
    obtain ⟨h0, h0', ok⟩ := ok
    obtain ⟨h1, h2, h3, h4⟩ := enter_ok X r s τ ok e2
    refine ⟨by simp [h1], fun i y k sl a b => ?_, fun y c a => ?_, fun y c a => ?_⟩
    · cases i with
      | zero => simp at a b; obtain ⟨rfl, rfl⟩ := a; subst b; exact ⟨rfl, fun _ _ => trivial⟩
      | succ i => exact h2 i y k sl (by simpa using a) (by simpa using b)
    · rcases List.mem_cons.mp a with q | q
      · cases q; exact ⟨h0, h0'⟩
      · exact h3 y c q
    · rcases List.mem_cons.mp a with q | q
      · cases q
      · exact h4 y c q
  | (x, .far c0) :: r, some j :: s, σ', ok, e => by
    simp only [enterf] at e
    obtain ⟨⟨y0, sk, hj, hsk⟩, ok⟩ := ok
    split at e
    · rename_i d hd
      obtain ⟨τ, e2, rfl⟩ := Option.map_eq_some_iff.mp e
      obtain ⟨h1, h2, h3, h4⟩ := enter_ok X r s τ ok e2
      have Y := X.slot j y0 sk _ hj hd
      obtain ⟨v, hv, rv⟩ := Y
      have hv' : ∃ o, h.get? c0 = some o ∧ o.data = .cell (some v) := by
        rcases hsk with rfl | rfl <;> exact hv
      refine ⟨by simp [h1], fun i y k sl a b => ?_, fun y c a => ?_, fun y c a => ?_⟩
      · cases i with
        | zero => simp at a b; obtain ⟨rfl, rfl⟩ := a; subst b; exact ⟨rfl, fun _ _ => ⟨v, hv', rv⟩⟩
        | succ i => exact h2 i y k sl (by simpa using a) (by simpa using b)
      · rcases List.mem_cons.mp a with q | q
        · cases q
        · exact h3 y c q
      · rcases List.mem_cons.mp a with q | q
        · cases q; obtain ⟨o, ho, _⟩ := hv'; exact ⟨o, ho⟩
        · exact h4 y c q
    · cases e

structure CompScope (scope : Scope) (env : Env) (cl : List (Str × Addr)) (names : Names) (src : List (Option Nat)) (nc : Bool) (names' : Addr → Names) : Prop where
  kind : scope.kind = .function
  clos : closureFor scope env = pure cl
  locs : ∀ x ∈ scope.names, x.2 = .local → scope.names.lookup x.1 = some .local
  push : ∀ h, pushCells h scope.names = if nc then h.push cellObj else h
  ok : ∀ C, EnvOk (cenvOf scope cl C env) (names' C)
  src : ∀ C, SrcOk names C nc (names' C) src

section
variable {prog : Program} {w : World} {H : View} {k : Nat} {env : Env} {names : Names}

theorem new_comp_env {M : Model} {A : Around} {E : Value → Shared → Prop} {s : Shared} {scope : Scope} {globals : Addr} {cl : List (Str × Addr)} {qual : Str} {outer : Env} {Q : Env → Shared → Prop}
    (h : Q { scope := scope, locals := s.heap.objs.size, globals := globals, cells := cellsFrom (s.heap.objs.size + 1) scope.names cl, qual := qual, func := none, code := outer.code, frame := outer.frame, builtins := outer.builtins }
      { s with heap := pushCells (s.heap.push { cls := .type "dict", data := .dict #[] }) scope.names }) :
    wpAny M A (newFunctionEnv scope globals cl [] qual none .none (some outer)) Q E s := by
  simp only [newFunctionEnv, Option.isSome_some, if_true]
  refine wpAny_bind (wpAny_alloc ?_)
  refine wpAny_bind (wpAny_layCells _ (fun name kind cells => by cases hkc : kind == NameKind.cell <;> simp [hkc]) _ _ _ _ ?_)
  rw [show ({ s with heap := s.heap.push { cls := .type "dict", data := .dict #[] } } : Shared).heap.objs.size = s.heap.objs.size + 1 from Heap.size_push ..]
  refine wpAny_bind ?_
  rw [List.forIn_nil]
  exact wpAny_pure (wpAny_pure h)

noncomputable def compV (bind : St → PV → Option St) (ft : St → Option Bool) (fe : St → Option PV) : St → List PV → Option (List PV)
  | _, [] => some []
  | σ, d :: ds => match bind σ d with
    | none => none
    | some σ1 => match ft σ1 with
      | some true => match fe σ1 with
        | some y => (compV bind ft fe σ1 ds).map (y :: ·)
        | none => none
      | some false => compV bind ft fe σ1 ds
      | none => none

noncomputable def IfOk (prog : Program) (w : World) (H : View) (k : Nat) (env : Env) (names : Names) (ifs : List Expr) (ft : St → Option Bool) : Prop := Box (
  ∀ (A : Around) (s : Shared) (base g : View) (σ : St) (b : Bool) (Q : Bool → Shared → Prop), Room k A → FRel H env.locals names base σ g s.heap → ft σ = some b →
    (∀ h' tk g', Step s.heap g h' g' → Q b { s with heap := h', toks := tk }) →
    wpAny (model prog w) A (forIn ifs true fun c r => if r = true then do let ok ← isTrue c env (eval c env); pure (ForInStep.yield ok) else pure (ForInStep.yield r)) Q NoE s)
theorem If_nil : IfOk prog w H k env names [] (fun _ => some true) := by
  refine ⟨?_⟩
  intro A s base g σ b Q R F e hQ
  cases e
  exact wpAny_tests_nil (hQ s.heap s.toks g (.refl F.subG))
theorem If_one {c : Expr} {ft : St → Option Bool} (h : TOk prog w H k env names c ft) : IfOk prog w H k env names [c] ft := by
  refine ⟨?_⟩
  intro A s base g σ b Q R F e hQ
  exact wpAny_tests_one (h.out A s base g σ b Q R F e hQ)

theorem compLoop_gen {A : Around} {R : Result → Shared → Prop} {elt target iter : Expr} {ifs : List Expr} {scope : Scope} {pos : Pos} {it acc : Value} {env : Env} (I : Nat → Shared → Prop)
    (turn : ∀ n s, I n s → wpAny (model prog w) A (pyNext it) (fun r s₁ => match r with
      | none => R (.ok .next) s₁
      | some v => wpAny (model prog w) A (letOwnedTupleGo target it v) (fun _ s₁' => wpAny (model prog w) A (assign target env v) (fun _ s₂ =>
          wpAny (model prog w) A (forIn ifs true fun c r => if r = true then do let ok ← isTrue c env (eval c env); pure (ForInStep.yield ok) else pure (ForInStep.yield r)) (fun ok s₃ =>
            if ok = true then wpAny (model prog w) A (eval elt env) (fun x s₄ =>
              wpAny (model prog w) A (call (.builtin "list.append") [acc, x]) (fun _ s₅ => ∃ m, m < n ∧ I m s₅) NoE s₄) NoE s₃
            else ∃ m, m < n ∧ I m s₃) NoE s₂) NoE s₁') NoE s₁) NoE s)
    (n : Nat) (s : Shared) (h : I n s) :
    codeAny (model prog w) A (.compLoop (.ListComp elt [⟨target, iter, ifs, 0⟩] scope pos) 0 it acc env) R s := by
  refine codeAny_loop rfl I (fun n s hI => ?_) n h
  show wpAny _ A ((compTurn (.ListComp elt [⟨target, iter, ifs, 0⟩] scope pos) 0 it acc env).onRaise (fun x => do noteFrame x env; theTreesLotGoes x)) _ _ s
  refine wpAny_noted ?_
  rw [compTurn_list]
  have fx : ∀ {E' : Value → Shared → Prop} (a : Value) (b : Shared), NoE a b → E' a b := fun _ _ x => x.elim
  refine wpAny_bind (wpAny_standAt (wpAny_bind (wpAny_mono (turn n s hI) (fun r s₁ h₁ => ?_) fx)))
  cases r with
  | none => exact wpAny_pure h₁
  | some v =>
    refine wpAny_bind (wpAny_mono h₁ (fun _ s₁' h₁' => ?_) fx)
    refine wpAny_bind (wpAny_mono h₁' (fun _ s₂ h₂ => wpAny_bind (wpAny_mono h₂ (fun ok s₃ h₃ => ?_) fx)) fx)
    cases ok with
    | false => exact wpAny_pure ⟨rfl, h₃⟩
    | true =>
      exact wpAny_bind (wpAny_bind (wpAny_mono h₃ (fun x s₄ h₄ => wpAny_bind (wpAny_mono h₄ (fun _ s₅ h₅ => wpAny_pure (wpAny_pure ⟨rfl, h₅⟩)) fx)) fx))

theorem over_swap {a b : List Addr} {h : Heap} {base : View} : over a h (over b h base) = over b h (over a h base) := by
  funext x
  unfold over
  by_cases ha : x ∈ a <;> by_cases hb : x ∈ b <;> simp [ha, hb]

theorem comp_loop {A : Around} {elt target iter : Expr} {ifs : List Expr} {scope : Scope} {pos : Pos} {cenv : Env} {cnames : Names} {bind : St → PV → Option St} {ft : St → Option Bool} {fe : St → Option PV} {g₀ : View} {I D : Addr} {wr : List Addr} {ds : List PV} {Now : Nat → Heap → Prop}
    (R : Room k A) (hlim : ds.length ≤ lim) (T : Turns prog w H A cenv cnames target bind g₀ I wr ds Now) (ht : IfOk prog w H k cenv cnames ifs ft) (he : EOk prog w H k cenv cnames elt fe) (base : View)
    (hf : ∀ x c, (x, SK.far c) ∈ cnames → ∃ o, base c = some o) (hn : ∀ b ∈ wr, base b = none) (hD : base D = none) (hDw : D ∉ wr)
    (s : Shared) (g : View) (σ : St) (xs : List PV) (Sg : Sub g₀ g) (un : Unseen wr g) (gD : g D = none) (n0 : Nat) (hl : s.heap.get? D = some (listObj [] n0))
    (F : FRel H cenv.locals cnames (over wr s.heap (over [D] s.heap base)) σ g s.heap) (hN : Now 0 s.heap) (e : compV bind ft fe σ ds = some xs) (RR : Result → Shared → Prop)
    (hQ : ∀ h' tk g' σ' vs n, Sub g g' → (∀ b x, base b = some x → g b = none → g' b = none) → g' D = none → FRel H cenv.locals cnames base σ' g' h' → h'.get? D = some (listObj vs n) → Rds g' xs vs → RR (.ok .next) { s with heap := h', toks := tk }) :
    codeAny (model prog w) A (.compLoop (.ListComp elt [⟨target, iter, ifs, 0⟩] scope pos) 0 (.ref I) (.ref D) cenv) RR s := by
  have hfw : ∀ x c, (x, SK.far c) ∈ cnames → c ∉ wr := fun x c hm hb => by
    obtain ⟨o, e⟩ := hf x c hm
    rw [hn c hb] at e; cases e
  have hfD : ∀ x c, (x, SK.far c) ∈ cnames → c ∉ [D] := fun x c hm hb => by
    obtain ⟨o, e⟩ := hf x c hm
    rw [List.mem_singleton.mp hb, hD] at e; cases e
  refine compLoop_gen (fun n s' => ∃ i h tk g' σ' vs n1 ys zs, s' = { s with heap := h, toks := tk } ∧ n = ds.length - i ∧ i ≤ ds.length ∧ Now i h ∧ Sub g g' ∧ (∀ b x, base b = some x → g b = none → g' b = none) ∧ Unseen wr g' ∧ g' D = none ∧
      h.get? D = some (listObj vs n1) ∧ Rds g' ys vs ∧ ys.length ≤ i ∧ xs = ys ++ zs ∧
      FRel H cenv.locals cnames (over wr h (over [D] h base)) σ' g' h ∧ compV bind ft fe σ' (ds.drop i) = some zs) ?_ ds.length s ⟨0, s.heap, s.toks, g, σ, [], n0, [], xs, rfl, by omega, Nat.zero_le _, hN, Sub.refl g, fun _ _ _ n => n, un, gD, hl, Rds.nil, Nat.zero_le _, rfl, F, by simpa using e⟩
  rintro n s' ⟨i, h, tk, g', σ', vs, n1, ys, zs, rfl, rfl, hi, hN', S', B', un', gD', hl', rs', hlen, hxs, F', e'⟩
  have unD : Unseen [D] g' := fun b hb => by rw [List.mem_singleton.mp hb]; exact gD'
  have alD : Alive [D] h := fun b hb => by rw [List.mem_singleton.mp hb]; exact ⟨_, hl'⟩
  by_cases hlt : i < ds.length
  · have hd : ds.drop i = ds[i] :: ds.drop (i + 1) := List.drop_eq_getElem_cons hlt
    rw [hd, compV] at e'
    cases eb : bind σ' ds[i] with
    | none => rw [eb] at e'; cases e'
    | some σ1 =>
      rw [eb] at e'
      dsimp only at e'
      refine wpAny_mono (T.item i { s with heap := h, toks := tk } (over [D] h base) g' σ' σ1 ds[i] (fun s₂ => wpAny (model prog w) A (forIn ifs true fun c r => if r = true then do let ok ← isTrue c cenv (eval c cenv); pure (ForInStep.yield ok) else pure (ForInStep.yield r)) (fun ok s₃ =>
            if ok = true then wpAny (model prog w) A (eval elt cenv) (fun x s₄ =>
              wpAny (model prog w) A (call (.builtin "list.append") [.ref D, x]) (fun _ s₅ => ∃ m, m < ds.length - i ∧ ∃ i h tk g' σ' vs n1 ys zs, s₅ = { s with heap := h, toks := tk } ∧ m = ds.length - i ∧ i ≤ ds.length ∧ Now i h ∧ Sub g g' ∧ (∀ b x, base b = some x → g b = none → g' b = none) ∧ Unseen wr g' ∧ g' D = none ∧
                h.get? D = some (listObj vs n1) ∧ Rds g' ys vs ∧ ys.length ≤ i ∧ xs = ys ++ zs ∧ FRel H cenv.locals cnames (over wr h (over [D] h base)) σ' g' h ∧ compV bind ft fe σ' (ds.drop i) = some zs) NoE s₄) NoE s₃
            else ∃ m, m < ds.length - i ∧ ∃ i h tk g' σ' vs n1 ys zs, s₃ = { s with heap := h, toks := tk } ∧ m = ds.length - i ∧ i ≤ ds.length ∧ Now i h ∧ Sub g g' ∧ (∀ b x, base b = some x → g b = none → g' b = none) ∧ Unseen wr g' ∧ g' D = none ∧
                h.get? D = some (listObj vs n1) ∧ Rds g' ys vs ∧ ys.length ≤ i ∧ xs = ys ++ zs ∧ FRel H cenv.locals cnames (over wr h (over [D] h base)) σ' g' h ∧ compV bind ft fe σ' (ds.drop i) = some zs) NoE s₂) hN' (Sg.trans S') un' hfw F' (List.getElem?_eq_getElem hlt) eb fun h1 t1 hN1 F1 => ?_) (fun r s₁ hr => ?_) fun _ _ x => x
      · have al1 := T.alive _ _ hN1
        cases et : ft σ1 with
        | none => rw [et] at e'; cases e'
        | some b =>
          rw [et] at e'
          refine ht.out A { s with heap := h1, toks := t1 } _ g' σ1 b _ R F1 et fun h2 t2 g2 T2 => ?_
          have F2 := F1.step T2
          have base2 : ∀ {g3 : View} {h3 : Heap}, Step h1 g' h3 g3 → ∀ b x, base b = some x → g' b = none → g3 b = none := fun {g3 h3} T3 b x eb' n => T3.fresh b x (F1.subB b x (by
              rw [over_out (fun hb => by rw [hn b hb] at eb'; cases eb'), over_out (fun hb => by rw [List.mem_singleton.mp hb, hD] at eb'; cases eb')]; exact eb')) n
          have un3 : ∀ {g3 : View} {h3 : Heap}, Step h1 g' h3 g3 → Unseen wr g3 := fun {g3 h3} T3 b hb => by
            obtain ⟨o', eo'⟩ := al1 b hb
            exact T3.fresh b o' eo' (un' b hb)
          -- the accumulator stands as it was
          have hDh1 : h1.get? D = some (listObj vs n1) := F1.subB D _ (by rw [over_out hDw, over_in (List.mem_singleton.mpr rfl)]; exact hl')
          have gD3 : ∀ {g3 : View} {h3 : Heap}, Step h1 g' h3 g3 → g3 D = none := fun {g3 h3} T3 => T3.fresh D _ hDh1 gD'
          have alD1 : Alive [D] h1 := fun b hb => by rw [List.mem_singleton.mp hb]; exact ⟨_, hDh1⟩
          have eqD : over [D] h1 base = over [D] h base := by
            funext b
            by_cases hb : b ∈ [D]
            · rw [over_in hb, over_in hb, List.mem_singleton.mp hb, hDh1, hl']
            · rw [over_out hb, over_out hb]
          cases b with
          | false =>
            have e' : compV bind ft fe σ1 (ds.drop (i + 1)) = some zs := e'
            obtain ⟨eq, al2⟩ := over_same F2.subB al1
            have hDh2 := T2.ext _ _ hDh1
            have eqD2 : over [D] h2 base = over [D] h base := by
              funext b
              by_cases hb : b ∈ [D]
              · rw [over_in hb, over_in hb, List.mem_singleton.mp hb, hDh2, hl']
              · rw [over_out hb, over_out hb]
            refine ⟨ds.length - (i + 1), by omega, i + 1, h2, t2, g2, σ1, vs, n1, ys, zs, rfl, rfl, hlt, ?_, S'.trans T2.sub, fun b x eb' n => base2 T2 b x eb' (B' b x eb' n), un3 T2, gD3 T2, hDh2, Rds.mono T2.sub _ _ rs', by omega, hxs, ?_, e'⟩
            · exact T.frame _ _ _ hN1 ((Sg.trans S').trans F1.subG) (((Sg.trans S').trans T2.sub).trans T2.into) fun b hb o eo' => T2.ext _ _ eo'
            · rw [eqD2, eq]; exact F2
          | true =>
            dsimp only at e'
            rw [if_pos rfl]
            cases ee : fe σ1 with
            | none => rw [ee] at e'; cases e'
            | some y =>
              rw [ee] at e'
              obtain ⟨zs', ez, rfl⟩ := Option.map_eq_some_iff.mp e'
              refine he.out A { s with heap := h2, toks := t2 } _ g2 σ1 y _ R F2 ee fun v h3 t3 g3 T3 r3 => ?_
              have T23 := T2.trans T3
              have F3 := F2.step T3
              have hDh3 := T23.ext _ _ hDh1
              have hvs : vs.length ≤ i := by rw [rs'.len]; exact hlen
              refine wpAny_list_append_plain (s := { s with heap := h3, toks := t3 }) ⟨n1, hDh3⟩ (fun h4 hl4 hs4 => ?_) (by rw [List.size_toArray, sizeLine_eq]; rw [lim_eq] at hlim; omega)
              obtain ⟨n4, hl4⟩ := hl4
              have e1 : vs.toArray.push v = (vs ++ [v]).toArray := by simp
              rw [e1] at hl4
              obtain ⟨eq3, al3⟩ := over_same F3.subB al1
              have eqD3 : over [D] h3 base = over [D] h base := by
                funext b
                by_cases hb : b ∈ [D]
                · rw [over_in hb, over_in hb, List.mem_singleton.mp hb, hDh3, hl']
                · rw [over_out hb, over_out hb]
              have F3' : FRel H cenv.locals cnames (over [D] h3 (over wr h3 base)) σ1 g3 h3 := by
                rw [over_swap, eqD3, eq3]; exact F3
              have bt : But [D] h3 h4 := fun b o hb eo => by rw [hs4.2 b (fun q => hb (by rw [q]; exact List.mem_singleton.mpr rfl))]; exact eo
              have F4 := over_turn F3' (fun b hb => by rw [List.mem_singleton.mp hb]; exact gD3 T23) hfD (fun b hb => by rw [List.mem_singleton.mp hb]; exact ⟨_, hDh3⟩) bt
              have wr4 : ∀ b ∈ wr, h4.get? b = h3.get? b := fun b hb => hs4.2 b (by rintro rfl; exact hDw hb)
              have eqw : over wr h3 base = over wr h4 base := by
                funext b
                by_cases hb : b ∈ wr
                · rw [over_in hb, over_in hb, wr4 b hb]
                · rw [over_out hb, over_out hb]
              rw [eqw, over_swap] at F4
              refine ⟨ds.length - (i + 1), by omega, i + 1, h4, t3, g3, σ1, vs ++ [v], n4, ys ++ [y], zs', rfl, rfl, hlt, ?_, S'.trans T23.sub, fun b x eb' n => base2 T23 b x eb' (B' b x eb' n), un3 T23, gD3 T23, hl4, Rds.append (Rds.mono T23.sub _ _ rs') (Rds.cons r3 Rds.nil), by simp; omega, by rw [hxs]; simp, F4, ez⟩
              refine T.frame _ _ _ hN1 ((Sg.trans S').trans F1.subG) (((Sg.trans S').trans T23.sub).trans F4.subG) fun b hb o eo' => ?_
              rw [wr4 b hb]; exact T23.ext _ _ eo'
      · cases r with
        | none => exact hr.elim
        | some v => exact wpAny_mono hr (fun _ s₂ h₂ => wpAny_mono h₂ (fun _ s₃ h₃ => h₃) fun _ _ x => x) fun _ _ x => x
  · have hi' : i = ds.length := by omega
    subst hi'
    rw [List.drop_length, compV] at e'
    cases e'
    refine wpAny_mono (T.done { s with heap := h, toks := tk } (fun s₁ => RR (.ok .next) s₁) hN' fun h1 t1 bt => ?_) (fun r s₁ hr => ?_) fun _ _ x => x
    · have F1 := over_turn F' un' hfw (T.alive _ _ hN') bt
      have F2 := over_leave F1 (fun x c hm => by obtain ⟨o, e⟩ := hf x c hm; exact ⟨o, by rw [over_out (hfD x c hm)]; exact e⟩) (fun b hb => by rw [over_out (fun q => hDw (by rw [← List.mem_singleton.mp q]; exact hb))]; exact hn b hb)
      have F3 := over_leave F2 hf (fun b hb => by rw [List.mem_singleton.mp hb]; exact hD)
      exact hQ h1 t1 g' σ' vs n1 S' B' gD' F3 (bt _ _ hDw hl') (by rw [hxs]; simpa using rs')
    · cases r with
      | none => exact hr
      | some v => exact hr.elim

theorem comp_core {A : Around} {elt target iter : Expr} {ifs : List Expr} {scope : Scope} {pos : Pos} {cl : List (Str × Addr)} {src : List (Option Nat)} {nc : Bool} {names' : Addr → Names} {bind : St → PV → Option St} {ft : St → Option Bool} {fe : St → Option PV} {g : View} {I : Addr} {wr : List Addr}
    {ds xs : List PV} {Now : Nat → Heap → Prop} {zip : Bool} (cs : CompScope scope env cl names src nc names') (R : Room k A) (hlim : ds.length ≤ lim) (s : Shared) {base0 : View} {σ σ' : St} (F : FRel H env.locals names base0 σ g s.heap) (es : enterf src σ = some σ')
    (TT : ∀ C, Turns prog w H A (cenvOf scope cl C env) (names' C) target bind g I wr ds Now) (ht : ∀ C, IfOk prog w H k (cenvOf scope cl C env) (names' C) ifs ft) (he : ∀ C, EOk prog w H k (cenvOf scope cl C env) (names' C) elt fe)
    (un : Unseen wr g) (hfar : ∀ C x c, (x, SK.far c) ∈ names' C → c ∉ wr) (hN : Now 0 s.heap) (e : compV bind ft fe σ' ds = some xs) (RR : Value → Addr → Result → Shared → Prop)
    (hRR : ∀ D C h' tk g' vs n m, (∀ b o, b ∉ wr → s.heap.get? b = some o → h'.get? b = some o) → Sub g g' → Sub g' h'.get? → (∀ b o, b ∉ wr → s.heap.get? b = some o → g b = none → g' b = none) → s.heap.get? D = none → s.heap.get? C = none → D ≠ C → g' D = none → g' C = none →
      h'.get? D = some (listObj vs n) → Rds g' xs vs → h'.Ns C m → RR (.ref D) C (.ok .next) { s with heap := h', toks := tk }) :
    wpAny (model prog w) A (newList []) (fun acc s₃ => wpAny (model prog w) A (newFunctionEnv scope env.globals cl [] env.qual none .none (some env)) (fun cenv s₄ =>
      codeAny (model prog w) A (.compStart (.ListComp elt [⟨target, iter, ifs, 0⟩] scope pos) 0 (.ref I) acc { cenv with scope := relabel scope env }) (RR acc cenv.locals) s₄) NoE s₃) NoE s := by
  obtain ⟨m, ad, X⟩ := F
  refine wpAny_newObj_type (new_comp_env ?_)
  dsimp only
  generalize hD : s.heap.objs.size = D
  have hDn : s.heap.get? D = none := by rw [← hD]; exact fresh_get
  generalize hH2 : s.heap.push { cls := .type "list", dict := none, data := .seq ([] : List Value).toArray } = H2
  have hC : H2.objs.size = D + 1 := by rw [← hH2, Heap.size_push, hD]
  have hCn2 : H2.get? (D + 1) = none := by rw [← hC]; exact fresh_get
  have x2 : Ext s.heap H2 := by rw [← hH2]; exact Ext.push _ _
  have hD2 : H2.get? D = some (listObj [] 0) := by rw [← hH2, ← hD]; exact Heap.get?_push_size _ rfl
  rw [hC]
  generalize hH3 : H2.push { cls := .type "dict", dict := none, data := .dict #[] } = H3
  have hC3 : H3.objs.size = D + 2 := by rw [← hH3, Heap.size_push, hC]
  have x3 : Ext H2 H3 := by rw [← hH3]; exact Ext.push _ _
  have hn3 : H3.Ns (D + 1) (fun _ => none) := by rw [← hH3, ← hC]; exact Heap.Ns.new ..
  have hc3 : H3.get? (D + 2) = none := by rw [← hC3]; exact fresh_get
  generalize hH4 : pushCells H3 scope.names = H4
  have e4 : H4 = if nc then H3.push cellObj else H3 := by rw [← hH4, cs.push]
  have x4 : Ext H3 H4 := by rw [e4]; cases nc with
    | true => exact Ext.push _ _
    | false => exact Ext.refl _
  have hc4 : nc = true → H4.get? (D + 2) = some cellObj := fun q => by rw [e4, q, ← hC3]; exact Heap.get?_push_size _ rfl
  have x23 := x2.trans (x3.trans x4)
  have hn4 : H4.Ns (D + 1) (fun _ => none) := by obtain ⟨o, es', ep, a, b⟩ := hn3; exact ⟨o, es', ep, x4 _ _ a, b⟩
  have hD4 : H4.get? D = some (listObj [] 0) := x4 _ _ (x3 _ _ hD2)
  -- the comp's frame
  have sub1 : Sub g H2.get? := fun b o q => x2 _ _ (X.subG b o q)
  have gno : ∀ a, H2.get? a = none → g a = none := fun a q => by
    cases q' : g a with
    | none => rfl
    | some o => have := sub1 _ _ q'; rw [q] at this; cases this
  have gDn : g D = none := by
    cases q' : g D with
    | none => rfl
    | some o => have := X.subG _ _ q'; rw [hDn] at this; cases this
  have X4 : FCore H env.locals names base0 σ g H4 m ad := X.step (Step.keep X.subG x23)
  obtain ⟨elen, eslot, eown, efar⟩ := enter_ok (C := D + 1) (nc := nc) (m' := fun _ => none) X (names' (D + 1)) src σ' (cs.src _) es
  obtain ⟨_, eslot4, _, _⟩ := enter_ok (C := D + 1) (nc := nc) (m' := fun _ => none) X4 (names' (D + 1)) src σ' (cs.src _) es
  let base : View := fun b => if b ∈ wr then none else s.heap.get? b
  have base_of : ∀ b, b ∉ wr → base b = s.heap.get? b := fun b hb => if_neg hb
  have base_wr : ∀ b ∈ wr, base b = none := fun b hb => if_pos hb
  have baseN : ∀ b, s.heap.get? b = none → base b = none := fun b q => by
    by_cases hb : b ∈ wr
    · exact base_wr b hb
    · rw [base_of b hb]; exact q
  have sC : s.heap.get? (D + 1) = none := by
    cases q : s.heap.get? (D + 1) with
    | none => rfl
    | some o => have := x2 _ _ q; rw [hCn2] at this; cases this
  have sC2 : s.heap.get? (D + 2) = none := by
    cases q : s.heap.get? (D + 2) with
    | none => rfl
    | some o => have := x3 _ _ (x2 _ _ q); rw [hc3] at this; cases this
  have al : Alive wr s.heap := (TT (D + 1)).alive _ _ hN
  have hDw : D ∉ wr := fun hb => by obtain ⟨o, q⟩ := al D hb; rw [hDn] at q; cases q
  have hCw : D + 1 ∉ wr := fun hb => by obtain ⟨o, q⟩ := al _ hb; rw [sC] at q; cases q
  have hDC : (D : Addr) ≠ D + 1 := by intro h; have h' : @Eq Nat _ _ := h; omega
  have hDC2 : (D + 2 : Addr) ≠ D := by intro h; have h' : @Eq Nat _ _ := h; omega
  have F4 : FRel H (cenvOf scope cl (D + 1) env).locals (names' (D + 1)) (over wr H4 (over [D] H4 base)) σ' g H4 := by
    refine ⟨fun _ => none, fun _ => 0, ?_, X.home, ?_, gno _ hCn2, ?_, fun b o q => x4 _ _ (x3 _ _ (sub1 b o q)), elen, ?_, ?_, ?_, ?_⟩
    · exact hn4
    · show over wr H4 (over [D] H4 base) (D + 1) = none
      rw [over_out hCw, over_out (fun q => hDC (List.mem_singleton.mp q).symm)]
      exact baseN _ sC
    · intro b o q
      by_cases hb : b ∈ wr
      · rw [over_in hb] at q; exact q
      · rw [over_out hb] at q
        by_cases hb' : b ∈ [D]
        · rw [over_in hb'] at q; exact q
        · rw [over_out hb', base_of b hb] at q; exact x23 _ _ q
    · intro i x kk sl h1 h2
      obtain ⟨a, b⟩ := eslot4 i x kk sl h1 h2
      have := b (over wr H4 (over [D] H4 base)) 0
      cases sl with
      | empty => trivial
      | val d =>
        obtain ⟨v, hv, r⟩ := this
        cases kk with
        | loc =>
          exfalso
          -- a local enters empty
          have q : ∀ (nn : Names) (ss : List (Option Nat)) (τ : St), SrcOk names (D + 1) nc nn ss → enterf ss σ = some τ → ∀ (i : Nat) x d, nn[i]? = some (x, SK.loc) → τ[i]? = some (Slot.val d) → False := by
            intro nn
            induction nn with
            | nil => intro ss τ _ _ i x d h; simp at h
            | cons p nn ih =>
              intro ss τ ok ee i x d h h'
              obtain ⟨y, sk⟩ := p
              cases ss with
              | nil => cases sk <;> simp [SrcOk] at ok
              | cons s0 ss =>
                cases sk with
                | loc =>
                  cases s0 with
                  | some j => simp [SrcOk] at ok
                  | none =>
                    simp only [enterf] at ee
                    obtain ⟨τ', e2, rfl⟩ := Option.map_eq_some_iff.mp ee
                    cases i with
                    | zero => simp at h'
                    | succ i => exact ih ss τ' ok e2 i x d (by simpa using h) (by simpa using h')
                | own c =>
                  cases s0 with
                  | some j => simp [SrcOk] at ok
                  | none =>
                    simp only [enterf] at ee
                    obtain ⟨τ', e2, rfl⟩ := Option.map_eq_some_iff.mp ee
                    cases i with
                    | zero => simp at h'
                    | succ i => exact ih ss τ' ok.2.2 e2 i x d (by simpa using h) (by simpa using h')
                | far c =>
                  cases s0 with
                  | none => simp [SrcOk] at ok
                  | some j =>
                    simp only [enterf] at ee
                    split at ee
                    · obtain ⟨τ', e2, rfl⟩ := Option.map_eq_some_iff.mp ee
                      cases i with
                      | zero => simp at h
                      | succ i => exact ih ss τ' ok.2 e2 i x d (by simpa using h) (by simpa using h')
                    · cases ee
          exact q _ _ _ (cs.src _) es i x d h1 h2
        | own c => exact ⟨v, hv, r⟩
        | far c => exact ⟨v, hv, r⟩
      | own ys => cases a
      | self a0 C ns ys => cases a
    · intro x c hm
      obtain ⟨rfl, hnc⟩ := eown x c hm
      have c2 : (D + 1 + 1 : Addr) = D + 2 := rfl
      have hcw : D + 2 ∉ wr := fun hb => by obtain ⟨o, q⟩ := al _ hb; rw [sC2] at q; cases q
      refine ⟨?_, ?_, cellObj, none, hc4 hnc, rfl⟩
      · show over wr H4 (over [D] H4 base) (D + 2) = none
        rw [over_out hcw, over_out (fun q => hDC2 (List.mem_singleton.mp q))]
        exact baseN _ sC2
      · show g (D + 2) = none
        cases q' : g (D + 2) with
        | none => rfl
        | some o => have := X.subG _ _ q'; rw [sC2] at this; cases this
    · intro x c hm
      obtain ⟨o, ho⟩ := efar x c hm
      refine ⟨o, ?_⟩
      have hcw := hfar (D + 1) x c hm
      rw [over_out hcw, over_out (fun q => by rw [List.mem_singleton.mp q, hDn] at ho; cases ho), base_of c hcw]
      exact ho
    · intro i j sl sl' h1 h2 o1
      exfalso
      have hlt : i < (names' (D + 1)).length := by rw [← elen]; exact (List.getElem?_eq_some_iff.mp h1).1
      obtain ⟨a, _⟩ := eslot4 i _ _ sl (List.getElem?_eq_getElem hlt) h1
      rw [a] at o1; cases o1
  have loop := comp_loop (elt := elt) (iter := iter) (ifs := ifs) (scope := scope) (pos := pos) (s := { s with heap := H4, toks := s.toks }) R hlim (TT (D + 1)) (ht (D + 1)) (he (D + 1)) base
    (fun x c hm => by
      obtain ⟨o, ho⟩ := efar x c hm
      exact ⟨o, by rw [base_of c (hfar _ x c hm)]; exact ho⟩) base_wr (baseN _ hDn) hDw g σ' xs (Sub.refl g) un gDn 0 hD4 F4
    ((TT (D + 1)).frame _ _ _ hN X.subG (fun b o q => x23 _ _ (X.subG b o q)) fun b _ o q => x23 _ _ q) e (RR (.ref D) (D + 1)) fun h' tk g' σ2 vs n S' B' gD' F' hl' rs' => by
      obtain ⟨m2, ad2, X'⟩ := F'
      exact hRR D (D + 1) h' tk g' vs n m2 (fun b o hb q => X'.subB b o (by rw [base_of b hb]; exact q)) S' X'.subG (fun b o hb q n => B' b o (by rw [base_of b hb]; exact q) n) hDn sC hDC gD' X'.gL hl' rs' X'.ns
  refine codeAny_compStart_list loop ((TT (D + 1)).self 0 _ _ ?_ loop |> fun q => wpAny_mono q (fun _ _ x => x) fun _ _ x => x.elim)
  exact (TT (D + 1)).frame _ _ _ hN X.subG (fun b o q => x23 _ _ (X.subG b o q)) fun b _ o q => x23 _ _ q

theorem L_comp {elt target iter : Expr} {ifs : List Expr} {scope : Scope} {pos : Pos} {cl : List (Str × Addr)} {src : List (Option Nat)} {nc : Bool} {names' : Addr → Names} {zip : Bool} {fi : St → Option (List PV)} {bind : St → PV → Option St} {ft : St → Option Bool} {fe : St → Option PV}
    (cs : CompScope scope env cl names src nc names') (hi : ItOk prog w H k zip env names iter fi) (tg : ∀ C, TgK prog w H zip (cenvOf scope cl C env) (names' C) target bind) (ht : ∀ C, IfOk prog w H k (cenvOf scope cl C env) (names' C) ifs ft)
    (he : ∀ C, EOk prog w H k (cenvOf scope cl C env) (names' C) elt fe) (hs : ∀ x, foldedSetIterable iter env x = pure x := by intro _; rfl) :
    LOk prog w H k env names (.ListComp elt [⟨target, iter, ifs, 0⟩] scope pos) (fun σ => (fi σ).bind fun ds => if ds.length ≤ lim then (enterf src σ).bind fun σ' => compV bind ft fe σ' ds else none) := by
  refine ⟨?_⟩
  intro A s base g σ xs Q R F e hQ
  obtain ⟨ds, ed, e⟩ := Option.bind_eq_some_iff.mp e
  split at e
  · rename_i hlim
    obtain ⟨σ', es, e⟩ := Option.bind_eq_some_iff.mp e
    rw [eval_ListComp]
    refine wpAny_comprehension_free (use := none) rfl hs cs.clos cs.kind cs.locs (hi.out A s base g σ ds _ R F ed fun I wr h1 t1 g1 Now T1 hw hN TT => ?_)
    have nw : ∀ b o, s.heap.get? b = some o → b ∉ wr := fun b o q hb => by rw [(hw b hb).1] at q; cases q
    obtain ⟨m0, ad0, X0⟩ := F
    have F : FRel H env.locals names base σ g s.heap := ⟨m0, ad0, X0⟩
    refine comp_core (zip := zip) (s := { s with heap := h1, toks := t1 }) cs R hlim (F.step T1) es (fun C => TT _ _ _ _ (tg C)) ht he (fun b hb => (hw b hb).2) (fun C x c hm => by
      obtain ⟨o, ho⟩ := (enter_ok (C := C) (nc := nc) (m' := fun _ => none) X0 (names' C) src σ' (cs.src _) es).2.2.2 x c hm
      exact nw c o ho) hN e (fun acc C => compPost (model prog w) A NoE none Q acc C) ?_
    intro D C h' tk g' vs n m ext' S' into' fr' hD hC hDC gD gC hl rs hn
    refine ⟨m, hn, fun h'' hs'' => ?_⟩
    have off : ∀ b, b ≠ C → h''.get? b = h'.get? b := hs''.2
    have eC : s.heap.get? C = none := by
      cases q : s.heap.get? C with
      | none => rfl
      | some o => have := T1.ext _ _ q; dsimp only at hC; rw [hC] at this; cases this
    have eD : s.heap.get? D = none := by
      cases q : s.heap.get? D with
      | none => rfl
      | some o => have := T1.ext _ _ q; dsimp only at hD; rw [hD] at this; cases this
    refine hQ D vs n h'' tk g' ⟨fun b o q => ?_, T1.sub.trans S', fun b o q => ?_, fun b o q n => ?_⟩ eD gD ((off D hDC).trans hl) rs
    · rw [off b (by rintro rfl; rw [eC] at q; cases q)]; exact ext' b o (nw b o q) (T1.ext _ _ q)
    · rw [off b (by rintro rfl; rw [gC] at q; cases q)]; exact into' b o q
    · exact fr' b o (nw b o q) (T1.ext _ _ q) (T1.fresh b o q n)
  · cases e
theorem S_assign_comp {x : Str} {p spos : Pos} {elt target iter : Expr} {ifs : List Expr} {scope : Scope} {pos : Pos} {cl : List (Str × Addr)} {src : List (Option Nat)} {nc : Bool} {names' : Addr → Names} {zip : Bool} {fi : St → Option (List PV)} {bind : St → PV → Option St} {ft : St → Option Bool} {fe : St → Option PV}
    (ok : EnvOk env names) (i : Nat) (hx : names[i]? = some (x, SK.loc))
    (cs : CompScope scope env cl names src nc names') (hi : ItOk prog w H k zip env names iter fi) (tg : ∀ C, TgK prog w H zip (cenvOf scope cl C env) (names' C) target bind) (ht : ∀ C, IfOk prog w H k (cenvOf scope cl C env) (names' C) ifs ft)
    (he : ∀ C, EOk prog w H k (cenvOf scope cl C env) (names' C) elt fe)
    (hsw : swapsWith (.ListComp elt [⟨target, iter, ifs, 0⟩] scope pos) (some (.Name x p)) spos.line env = pure true := by rfl) (hs : ∀ x, foldedSetIterable iter env x = pure x := by intro _; rfl) :
    SOk prog w H k env names (.Assign [.Name x p] (.ListComp elt [⟨target, iter, ifs, 0⟩] scope pos) spos) (fun σ => ((fi σ).bind fun ds => if ds.length ≤ lim then (enterf src σ).bind fun σ' => compV bind ft fe σ' ds else none).map fun xs => .next (σ.set i (.own xs))) := by
  refine ⟨?_⟩
  intro A s base g σ o Q R F e hQ
  obtain ⟨xs, e2, rfl⟩ := Option.map_eq_some_iff.mp e
  obtain ⟨ds, ed, e⟩ := Option.bind_eq_some_iff.mp e2
  split at e
  · rename_i hlim
    obtain ⟨σ', es, e⟩ := Option.bind_eq_some_iff.mp e
    rw [exec_Assign_Name_used _ _ _ _ hsw]
    refine wpAny_bind (wpAny_standAt (wpAny_bind ?_))
    show wpAny _ A (do let _ ← comprehension (.ListComp elt [⟨target, iter, ifs, 0⟩] scope pos) scope env _ (newList []) false (eval iter env) (some (assign (.Name x p) env))) _ _ s
    refine wpAny_bind (wpAny_mono (wpAny_comprehension_free (use := some (assign (.Name x p) env)) (E := NoE) (Q := fun _ s' => Q .next s') rfl hs cs.clos cs.kind cs.locs (hi.out A s base g σ ds _ R F ed fun I wr h1 t1 g1 Now T1 hw hN TT => ?_)) (fun _ s' hq => wpAny_pure (wpAny_pure hq)) fun _ _ e => e)
    have nw : ∀ b o, s.heap.get? b = some o → b ∉ wr := fun b o q hb => by rw [(hw b hb).1] at q; cases q
    obtain ⟨m0, ad0, X0⟩ := F
    have F : FRel H env.locals names base σ g s.heap := ⟨m0, ad0, X0⟩
    refine comp_core (zip := zip) (s := { s with heap := h1, toks := t1 }) cs R hlim (F.step T1) es (fun C => TT _ _ _ _ (tg C)) ht he (fun b hb => (hw b hb).2) (fun C x c hm => by
      obtain ⟨o, ho⟩ := (enter_ok (C := C) (nc := nc) (m' := fun _ => none) X0 (names' C) src σ' (cs.src _) es).2.2.2 x c hm
      exact nw c o ho) hN e (fun acc C => compPost (model prog w) A NoE (some (assign (.Name x p) env)) (fun _ s' => Q .next s') acc C) ?_
    intro D C h' tk g' vs n m ext' S' into' fr' hD hC hDC gD gC hl rs hn
    have eC : s.heap.get? C = none := by
      cases q : s.heap.get? C with
      | none => rfl
      | some o => have := T1.ext _ _ q; dsimp only at hC; rw [hC] at this; cases this
    have eD : s.heap.get? D = none := by
      cases q : s.heap.get? D with
      | none => rfl
      | some o => have := T1.ext _ _ q; dsimp only at hD; rw [hD] at this; cases this
    have ST : Step s.heap g h' g' := ⟨fun b o q => ext' b o (nw b o q) (T1.ext _ _ q), T1.sub.trans S', into', fun b o q n => fr' b o (nw b o q) (T1.ext _ _ q) (T1.fresh b o q n)⟩
    have X1 := X0.step ST
    obtain ⟨oL, esL, epL, hL, hdL, r3⟩ := id X0.ns
    have hLC : env.locals ≠ C := by rintro q; rw [← q, hL] at eC; cases eC
    have hLD : env.locals ≠ D := by rintro q; rw [← q, hL] at eD; cases eD
    show wpAny _ A (assign (.Name x p) env (.ref D)) _ _ _
    refine wpAny_assign_Name (wpAny_storeName_local (s := { s with heap := h', toks := tk }) (ok.loc x (List.mem_of_getElem? hx)) X1.ns (fun h2 hn2 hs2 => ?_) (by rw [ok.kind]; rfl))
    refine ⟨m, hn.sameBut hs2 (Ne.symm hLC), fun h3 hs3 => ?_⟩
    -- the cleanup touches the comprehension's dict alone
    have bD : base D = none := by
      cases q : base D with
      | none => rfl
      | some o => have := X0.subB _ _ q; rw [eD] at this; cases this
    have hl2 : h2.get? D = some (listObj vs n) := (hs2.2 D (Ne.symm hLD)).trans hl
    have Y := X1.setL (h' := h2) (σ := σ) ok.nodup hx hn2 hs2 (sl := .own xs) (a := D) ⟨rfl, by simp, bD, gD, vs, n, hl2, rs⟩ (fun _ j sl hj h1 o1 e => by
      obtain ⟨o, ho⟩ := X0.own_at h1 o1
      rw [e, eD] at ho; cases ho)
    have bC : base C = none := by
      cases q : base C with
      | none => rfl
      | some o => have := X0.subB _ _ q; rw [eC] at this; cases this
    refine hQ .next h3 _ g' (T1.sub.trans S') (fun b o q n => ST.fresh b o (X0.subB _ _ q) n) ⟨rfl, ?_⟩
    -- C is nobody's
    have Yl : FRel H env.locals names (over [C] h2 base) (σ.set i (.own xs)) g' h2 := by
      have hCs : ∃ o, h2.get? C = some o := by obtain ⟨o, _, _, ho, _⟩ := hn.sameBut hs2 (Ne.symm hLC); exact ⟨o, ho⟩
      obtain ⟨oC, hoC⟩ := hCs
      have hCcell : ∀ x c, (x, SK.own c) ∈ names → c ≠ C := by
        rintro y c hm rfl
        obtain ⟨_, _, o, v, ho, _⟩ := X0.cells y c hm
        rw [eC] at ho; cases ho
      refine ⟨_, _, Y.ns, Y.home, (over_out (fun q => hLC (List.mem_singleton.mp q))).trans Y.baseL, Y.gL, fun b o q => ?_, Y.subG, Y.len, fun j y kk sl h1 h2' => ?_, fun y c hm => ?_, fun y c hm => ?_, Y.apart⟩
      · by_cases hb : b ∈ [C]
        · rw [over_in hb] at q; exact q
        · rw [over_out hb] at q; exact Y.subB _ _ q
      · have Z := Y.slot j y kk sl h1 h2'
        have aj : sl.isOwn = true → (if j = i then D else ad0 j) ≠ C := by
          intro o1
          by_cases hj : j = i
          · rw [if_pos hj]; exact hDC
          · rw [if_neg hj]
            rw [List.getElem?_set_ne (Ne.symm hj)] at h2'
            obtain ⟨o, ho⟩ := X0.own_at h2' o1
            rintro q; rw [q, eC] at ho; cases ho
        cases sl with
        | empty => trivial
        | val d => exact Z
        | own ys =>
          obtain ⟨a1, a2, a3, a4⟩ := Z
          exact ⟨a1, a2, (over_out (fun q => aj rfl (List.mem_singleton.mp q))).trans a3, a4⟩
        | self a0 CC ns ys =>
          obtain ⟨a1, a2, a3, a4, dx, es, n, ho, hdL, hb', hg', hd, r⟩ := Z
          refine ⟨a1, a2, (over_out (fun q => aj rfl (List.mem_singleton.mp q))).trans a3, a4, dx, es, n, ho, hdL, (over_out (fun q => ?_)).trans hb', hg', hd, r⟩
          have hj : j ≠ i := by
            rintro rfl
            have hlt : j < σ.length := by rw [X0.len]; exact (List.getElem?_eq_some_iff.mp hx).1
            rw [List.getElem?_set_self hlt] at h2'; cases h2'
          rw [List.getElem?_set_ne (Ne.symm hj)] at h2'
          obtain ⟨_, _, _, _, dx0, _, _, ho0, hdL0, _, _, hd0, _⟩ := X0.slot j y kk _ h1 h2'
          have e1 : h2.get? (ad0 j) = some (instObj CC dx0) := (hs2.2 _ (X0.ne_L_inst ho0)).trans (ST.ext _ _ ho0)
          rw [if_neg hj, e1] at ho
          have := congrArg (fun o : Option Obj => o.bind Obj.dict) ho
          have e2 : dx0 = dx := by simpa using this
          rw [← e2] at q
          rw [List.mem_singleton.mp q, eC] at hd0; cases hd0
      · obtain ⟨a, b⟩ := Y.cells y c hm
        exact ⟨(over_out (fun q => hCcell y c hm (List.mem_singleton.mp q))).trans a, b⟩
      · obtain ⟨o, q⟩ := Y.fars y c hm
        exact ⟨o, by rw [over_out (fun q' => by rw [List.mem_singleton.mp q', bC] at q; cases q)]; exact q⟩
    have hCs2 : ∃ o, h2.get? C = some o := by obtain ⟨o, _, _, ho, _⟩ := hn.sameBut hs2 (Ne.symm hLC); exact ⟨o, ho⟩
    have Y3 := over_turn Yl (fun b hb => by rw [List.mem_singleton.mp hb]; exact gC) (fun y c hm hb => by
        obtain ⟨o, q⟩ := X0.fars y c hm
        rw [List.mem_singleton.mp hb, bC] at q; cases q) (fun b hb => by rw [List.mem_singleton.mp hb]; exact hCs2) (h' := h3) fun b o hb q => by
          rw [hs3.2 b (fun q' => hb (by rw [q']; exact List.mem_singleton.mpr rfl))]; exact q
    exact over_leave Y3 X0.fars (fun b hb => by rw [List.mem_singleton.mp hb]; exact bC)
  · cases e
end
end
end Mine
end
section
open PySem PySem.W PySem.Calls PyProof.Rows
set_option Elab.async false
set_option maxRecDepth 100000
namespace Mine
noncomputable section

noncomputable def outRet : Out → Option PV
  | .ret d => some d
  | .next _ => some .none
  | _ => none
noncomputable def startSt (n N : Nat) (ds : List PV) : Option St := if ds.length = n then some (ds.map Slot.val ++ List.replicate (N - n) Slot.empty) else none

theorem bindL_off {kindOf : Str → Option NameKind} : ∀ (binds : List (Str × Value)) (m : Str → Option Value) (x : Str), x ∉ binds.map (·.1) → bindL kindOf binds m x = m x
  | [], _, _, _ => rfl
  | (n, v) :: r, m, x, h => by
    simp only [List.map_cons, List.mem_cons, not_or] at h
    unfold bindL
    rw [bindL_off r _ x h.2]
    split
    · dsimp only; rw [if_neg h.1]
    · rfl
theorem bindL_get {kindOf : Str → Option NameKind} : ∀ (binds : List (Str × Value)) (m : Str → Option Value) (x : Str) (v : Value), (binds.map (·.1)).Nodup → (x, v) ∈ binds → kindOf x = some .local → bindL kindOf binds m x = some v
  | [], _, _, _, _, h, _ => by cases h
  | (n, u) :: r, m, x, v, nd, h, hk => by
    rw [List.map_cons, List.nodup_cons] at nd
    unfold bindL
    rcases List.mem_cons.mp h with q | q
    · cases q
      rw [bindL_off r _ _ nd.1, if_pos hk]
      simp
    · exact bindL_get r _ x v nd.2 q hk
theorem bindC_off {kindOf : Str → Option NameKind} : ∀ (binds : List (Str × Value)) (m : Str → Option Value) (x : Str), x ∉ binds.map (·.1) → bindC kindOf binds m x = m x
  | [], _, _, _ => rfl
  | (n, v) :: r, m, x, h => by
    simp only [List.map_cons, List.mem_cons, not_or] at h
    unfold bindC
    rw [bindC_off r _ x h.2]
    split
    · rfl
    · dsimp only; rw [if_neg h.1]
theorem bindC_get {kindOf : Str → Option NameKind} : ∀ (binds : List (Str × Value)) (m : Str → Option Value) (x : Str) (v : Value), (binds.map (·.1)).Nodup → (x, v) ∈ binds → kindOf x ≠ some .local → bindC kindOf binds m x = some v
  | [], _, _, _, _, h, _ => by cases h
  | (n, u) :: r, m, x, v, nd, h, hk => by
    rw [List.map_cons, List.nodup_cons] at nd
    unfold bindC
    rcases List.mem_cons.mp h with q | q
    · cases q
      rw [bindC_off r _ _ nd.1, if_neg hk]
      simp
    · exact bindC_get r _ x v nd.2 q hk

structure DefOk (H : View) (a : Addr) (fd : FuncData) (body : List Stmt) (ps : List Str) (N : Nat) (names : Addr → Names) : Prop where
  body : fd.body = .stmts body
  clo : fd.closure = []
  co : fd.scope.isCoroutine = false
  gen : fd.scope.isGenerator = false
  kind : fd.scope.kind = .function
  at_ : ∃ o, H a = some o ∧ o.data = .func fd
  code : ∀ h : Heap, Sub H h.get? → h.CodeRec fd.code fd.qualname
  lim : ∀ h : Heap, Sub H h.get? → h.NoLimit
  len : ∀ L, (names L).length = N
  le : ps.length ≤ N
  ok : ∀ L, EnvOk (callEnvC fd L a) (names L)
  pars : ∀ L i x k, (names L)[i]? = some (x, k) → i < ps.length → ps[i]? = some x
  par : ∀ L, ∀ x ∈ ps, fd.scope.names.lookup x = some .local ∨ (fd.scope.names.lookup x = some .cell ∧ ((cellsFrom (L + 1) fd.scope.names []).lookup x).isSome = true)
  nofar : ∀ L x c, (x, SK.far c) ∉ names L
  nodup : ps.Nodup

section
variable {prog : Program} {w : World} {H : View} {k : Nat}

theorem zip_mem {ps : List Str} {vs : List Value} {i : Nat} {x : Str} {v : Value} (h : ps[i]? = some x) (h' : vs[i]? = some v) : (x, v) ∈ ps.zip vs :=
  List.mem_of_getElem? (List.getElem?_zip_eq_some.mpr ⟨h, h'⟩)

theorem start_rel {a : Addr} {fd : FuncData} {body : List Stmt} {ps : List Str} {N : Nat} {names : Addr → Names} (D : DefOk H a fd body ps N names) {s₀ s₁ : Shared} {g : View} {vs : List Value} {ds : List PV} (hH : Sub H g) (hg : Sub g s₀.heap.get?) (r : Rds g ds vs) (hl : ds.length = ps.length)
    (x : InCallC s₀ (callEnvC fd s₀.heap.objs.size a).locals (bindL (callEnvC fd s₀.heap.objs.size a).kindOf (ps.zip vs) fun _ => none) (callEnvC fd s₀.heap.objs.size a).cells (bindC (callEnvC fd s₀.heap.objs.size a).kindOf (ps.zip vs) fun _ => none) s₁) :
    FRel H (callEnvC fd s₀.heap.objs.size a).locals (names s₀.heap.objs.size) s₀.heap.get? (ds.map Slot.val ++ List.replicate (N - ps.length) Slot.empty) g s₁.heap := by
  have hvl : vs.length = ps.length := by rw [r.len, hl]
  have nd : ((ps.zip vs).map (·.1)).Nodup := by
    have : (ps.zip vs).map (·.1) = ps := by rw [List.map_fst_zip (by omega)]
    rw [this]; exact D.nodup
  have ok := D.ok s₀.heap.objs.size
  refine ⟨_, fun _ => 0, x.toInCall.ns, hH, fresh_get, view_at hg, x.toInCall.keep, fun b o q => x.toInCall.keep b o (hg b o q), ?_, ?_, ?_, ?_, ?_⟩
  · rw [D.len]; simp [hl]; have := D.le; omega
  · intro i y kk sl hn hs
    by_cases hi : i < ds.length
    · rw [List.getElem?_append_left (by simpa using hi), List.getElem?_map] at hs
      obtain ⟨d, hd, rfl⟩ := Option.map_eq_some_iff.mp hs
      have hp := D.pars _ i y kk hn (by omega)
      obtain ⟨v, hv, rv⟩ := r.get hd
      have hm := zip_mem hp hv
      refine ⟨v, ?_, rv⟩
      cases kk with
      | loc => exact bindL_get _ _ _ _ nd hm (ok.loc y (List.mem_of_getElem? hn))
      | own c =>
        obtain ⟨h1, h2⟩ := ok.own y c (List.mem_of_getElem? hn)
        have hc := x.cell y c h2
        rw [bindC_get _ _ _ _ nd hm (by rw [h1]; decide)] at hc
        exact hc
      | far c => exact absurd (List.mem_of_getElem? hn) (D.nofar _ _ _)
    · rw [List.getElem?_append_right (by simpa using hi), List.getElem?_replicate] at hs
      split at hs
      · cases hs; trivial
      · cases hs
  · intro y c hm
    obtain ⟨_, h2⟩ := ok.own y c hm
    have hc := x.cell y c h2
    have hab := x.above y c (mem_of_lookup h2)
    have hn : s₀.heap.get? c = none := by
      cases q : s₀.heap.get? c with
      | none => rfl
      | some o => exact absurd (Heap.lt_size q) (Nat.not_lt.mpr (Nat.le_of_lt hab))
    obtain ⟨o, ho, hd⟩ := hc
    refine ⟨hn, ?_, o, _, ho, hd⟩
    cases q : g c with
    | none => rfl
    | some o => have := hg _ _ q; rw [hn] at this; cases this
  · intro y c hm
    exact absurd hm (D.nofar _ _ _)
  · intro i j sl sl' h1 _ o1
    exfalso
    by_cases hi : i < ds.length
    · rw [List.getElem?_append_left (by simpa using hi), List.getElem?_map] at h1
      obtain ⟨d, hd, rfl⟩ := Option.map_eq_some_iff.mp h1
      cases o1
    · rw [List.getElem?_append_right (by simpa using hi), List.getElem?_replicate] at h1
      split at h1
      · cases h1; cases o1
      · cases h1

noncomputable def callV (n N : Nat) (f : St → Option Out) (ds : List PV) : Option PV := (startSt n N ds).bind fun σ => (f σ).bind outRet

theorem body_ok {A : Around} {env : Env} {names : Names} {body : List Stmt} {f : St → Option Out} {s s₁ : Shared} {g : View} {σ : St} {d : PV} {Q : Value → Shared → Prop} {E : Value → Shared → Prop} (R : Room k A) (hb : XOk prog w H k env names body f)
    (hs : ∃ h tk, s₁ = { s with heap := h, toks := tk }) (F : FRel H env.locals names s.heap.get? σ g s₁.heap) (e : (f σ).bind outRet = some d) (hQ : ∀ v h' tk g', Step s.heap g h' g' → Rd g' d v → Q v { s with heap := h', toks := tk }) :
    wpAny (model prog w) A (execs body env) (fun fl s' => Q (match fl with | .ret v => v | _ => .none) s') E s₁ := by
  obtain ⟨o, eo, er⟩ := Option.bind_eq_some_iff.mp e
  obtain ⟨h1, t1, rfl⟩ := hs
  refine wpAny_mono (hb.out A _ _ g σ o (fun fl s' => Q (match fl with | .ret v => v | _ => .none) s') R F eo fun fl h' tk g' S' B' O' => ?_) (fun _ _ x => x) fun _ _ x => x.elim
  cases o with
  | next σ' =>
    simp only [outRet] at er; cases er
    obtain ⟨rfl, F'⟩ := O'
    exact hQ .none h' tk g' ⟨F'.subB, S', F'.subG, B'⟩ (rd_none.mpr rfl)
  | brk σ' => cases er
  | cont σ' => cases er
  | ret d' =>
    simp only [outRet] at er; cases er
    obtain ⟨v, rfl, r, Sb, Sv⟩ := O'
    exact hQ v h' tk g' ⟨Sb, S', Sv, B'⟩ r

theorem C_def {a : Addr} {fd : FuncData} {body : List Stmt} {ps : List Str} {N : Nat} {names : Addr → Names} {f : St → Option Out} (D : DefOk H a fd body ps N names) (hbind : ∀ vs : List Value, vs.length = ps.length → bindArgs fd ⟨vs, []⟩ = pure (ps.zip vs))
    (hb : ∀ L, XOk prog w H k (callEnvC fd L a) (names L) body f) : COk prog w H (k + 1) (.ref a) (callV ps.length N f) := by
  refine ⟨?_⟩
  intro A s g vs ds d Q R hH hg r e hQ
  obtain ⟨σ, e1, e2⟩ := Option.bind_eq_some_iff.mp e
  unfold startSt at e1
  split at e1
  · rename_i hl
    cases e1
    obtain ⟨o, ho, hd⟩ := D.at_
    have hS : Sub H s.heap.get? := hH.trans hg
    refine wpAny_call ?_
    have hroom : A.depth < recursionLimit := by have := R.depth; omega
    refine codeAny_call_cells hroom (hS _ _ ho) hd (D.lim _ hS) (D.code _ hS) D.body (hbind vs (by rw [r.len, hl])) D.clo (fun x hx => ?_) (fun s₁ x => ?_) D.co D.gen D.kind
    · have : x.1 ∈ ps := by
        obtain ⟨x1, x2⟩ := x
        exact (List.of_mem_zip hx).1
      exact D.par _ _ this
    · exact body_ok (R.deeper _) (hb _) x.toInCall.same (start_rel D hH hg r hl x) e2 hQ
  · cases e1
end
end
end Mine
end
section
open PySem PySem.W PySem.Calls PyProof.Rows
set_option Elab.async false
set_option maxRecDepth 100000
namespace Mine
noncomputable section

noncomputable def intsOf : List PV → Option (List Int)
  | [] => some []
  | .int i :: r => (intsOf r).map (i :: ·)
  | _ => none
theorem ints_are {g : View} : ∀ {xs : List PV} {vs : List Value} {ns : List Int}, Rds g xs vs → intsOf xs = some ns → IntsAre vs ns
  | [], _, _, r, e => by rw [Rds] at r; subst r; simp only [intsOf] at e; cases e; exact .nil
  | x :: xs, _, _, r, e => by
    rw [Rds] at r
    obtain ⟨v, vs', rfl, r1, r2⟩ := r
    cases x <;> simp only [intsOf] at e <;> first | (cases e; done) | skip
    obtain ⟨ns', e2, rfl⟩ := Option.map_eq_some_iff.mp e
    obtain ⟨t, rfl⟩ := rd_int.mp r1
    exact .cons _ t (ints_are r2 e2)
theorem ints_of {g : View} : ∀ {ns : List Int} {vs : List Value}, IntsAre vs ns → Rds g (ns.map PV.int) vs
  | _, _, .nil => Rds.nil
  | _, _, .cons n t r => Rds.cons (rd_int.mpr ⟨t, rfl⟩) (ints_of r)
section
variable {prog : Program} {w : World} {H : View} {k : Nat} {env : Env} {names : Names}

theorem E_len {x : Str} {p pos : Pos} {e : Expr} {f : St → Option (List PV)} (hv : VOk prog w H env names (.Name x p) (.builtin "len")) (ha : PkOk prog w H k env names e f) (hp : PlainArgs env [e]) (hst : notStar e = true := by rfl) :
    EOk prog w H k env names (.Call (.Name x p) [e] [] pos) (fun σ => (f σ).bind fun xs => if xs.length ≤ lim then some (.int xs.length) else none) := by
  refine ⟨?_⟩
  intro A s base g σ d Q R F e' hQ
  obtain ⟨xs, ex, e2⟩ := Option.bind_eq_some_iff.mp e'
  split at e2
  · rename_i hl
    cases e2
    rw [arm_call]
    refine wpAny_bind (hv.out A s base g σ _ F ?_)
    refine callWith_builtin (hp pos).1 (evalArgs_A (hp pos).2 ?_)
    rw [star_cons hst]
    refine spliced_cons ?_
    show wpAny _ _ (eval e env) _ _ _
    refine ha.out A s base g σ xs _ R F ex fun a vs n h1 t1 g1 T1 o1 r1 => ?_
    refine spliced_nil ?_
    have hL : ({ s with heap := h1, toks := t1 } : Shared).heap.IsList a vs.toArray := ⟨_, o1, rfl, n, rfl⟩
    refine call_len_list hL (by rw [List.size_toArray, r1.len]; rw [lim_eq] at hl; omega) ?_
    exact hQ _ h1 _ g1 T1 (rd_int.mpr ⟨_, by rw [List.size_toArray, r1.len]⟩)
  · cases e2
noncomputable def lenV : List PV → Option PV
  | [.list xs] => if xs.length ≤ lim then some (.int xs.length) else none
  | [.tup xs] => if xs.length ≤ lim then some (.int xs.length) else none
  | _ => none
theorem C_len : COk prog w H k (.builtin "len") lenV := by
  refine ⟨?_⟩
  intro A s g vs ds d Q R hH hg r e hQ
  unfold lenV at e
  split at e
  · rename_i xs
    split at e
    · rename_i hl
      cases e
      rw [Rds] at r
      obtain ⟨v, vs', rfl, r1, r2⟩ := r
      rw [Rds] at r2; subst r2
      obtain ⟨a, ws, n, rfl, ga, ra⟩ := rd_list.mp r1
      have hL : s.heap.IsList a ws.toArray := ⟨_, hg _ _ ga, rfl, n, rfl⟩
      refine call_len_list hL (by rw [List.size_toArray, ra.len]; rw [lim_eq] at hl; omega) ?_
      exact hQ _ s.heap _ g (.refl hg) (rd_int.mpr ⟨_, by rw [List.size_toArray, ra.len]⟩)
    · cases e
  · rename_i xs
    split at e
    · rename_i hl
      cases e
      rw [Rds] at r
      obtain ⟨v, vs', rfl, r1, r2⟩ := r
      rw [Rds] at r2; subst r2
      obtain ⟨a, ws, n, rfl, ga, ra⟩ := rd_tup.mp r1
      have hL : IsTup s.heap a ws.toArray := ⟨_, hg _ _ ga, rfl, n, rfl⟩
      refine PyProof.Rows.len_tuple hL (by rw [List.size_toArray, ra.len]; rw [lim_eq] at hl; omega) ?_
      exact hQ _ s.heap _ g (.refl hg) (rd_int.mpr ⟨_, by rw [List.size_toArray, ra.len]⟩)
    · cases e
  · cases e

noncomputable def sumV : List PV → Option PV
  | [.list xs] => (intsOf xs).map fun ns => .int ns.sum
  | _ => none
theorem C_sum : COk prog w H k (.builtin "sum") sumV := by
  refine ⟨?_⟩
  intro A s g vs ds d Q R hH hg r e hQ
  unfold sumV at e
  split at e
  · rename_i xs
    obtain ⟨ns, en, rfl⟩ := Option.map_eq_some_iff.mp e
    rw [Rds] at r
    obtain ⟨v, vs', rfl, r1, r2⟩ := r
    rw [Rds] at r2; subst r2
    obtain ⟨a, ws, n, rfl, ga, ra⟩ := rd_list.mp r1
    have hI := ints_are ra en
    obtain ⟨ys, ey⟩ := hI.allInts.items
    have hL : s.heap.IsList a (intItems ys) := ⟨_, hg _ _ ga, rfl, n, by rw [← ey]⟩
    refine sum_intListG R.hand hL fun h' tk t' hk => ?_
    have e1 : preSum (numAt ys) ys.size = ns.sum := by
      rw [preSum_eq, List.take_of_length_le (by simp), ← nums_intItems, ← ey, hI.numsOf]
    rw [e1]
    exact hQ _ h' tk g (Step.keep hg hk) (rd_int.mpr ⟨_, rfl⟩)
  · cases e
noncomputable def maxL : List Int → Option Int
  | [] => none
  | a :: r => some (r.foldl max a)
noncomputable def maxV : List PV → Option PV
  | [.int a, .int b] => some (.int (max a b))
  | [.list xs] => (intsOf xs).bind fun ns => (maxL ns).map .int
  | _ => none
theorem foldl_max : ∀ (r : List Int) (a : Int), (r.foldl max a ∈ a :: r) ∧ ∀ x ∈ a :: r, x ≤ r.foldl max a
  | [], a => by simp
  | b :: r, a => by
    obtain ⟨h1, h2⟩ := foldl_max r (max a b)
    rw [List.foldl_cons]
    refine ⟨?_, fun x hx => ?_⟩
    · rcases List.mem_cons.mp h1 with q | q
      · rw [q]
        rcases Int.le_total a b with c | c
        · rw [Int.max_eq_right c]; simp
        · rw [Int.max_eq_left c]; simp
      · simp [q]
    · have hm := h2 (max a b) (List.mem_cons_self ..)
      rcases List.mem_cons.mp hx with q | q
      · subst q; omega
      · rcases List.mem_cons.mp q with q | q
        · subst q; omega
        · exact h2 x (List.mem_cons_of_mem _ q)
theorem C_max : COk prog w H k (.builtin "max") maxV := by
  refine ⟨?_⟩
  intro A s g vs ds d Q R hH hg r e hQ
  unfold maxV at e
  split at e
  · rename_i a b
    cases e
    rw [Rds] at r
    obtain ⟨v, vs', rfl, r1, r2⟩ := r
    rw [Rds] at r2
    obtain ⟨v', vs'', rfl, r2, r3⟩ := r2
    rw [Rds] at r3; subst r3
    obtain ⟨t, rfl⟩ := rd_int.mp r1
    obtain ⟨t', rfl⟩ := rd_int.mp r2
    refine max_two_ints R.hand fun h' tk hk => hQ _ h' tk g (Step.keep hg hk) (rd_int.mpr ?_)
    by_cases hba : b > a
    · rw [if_pos hba]; exact ⟨t', by rw [Int.max_eq_right (by omega)]⟩
    · rw [if_neg hba]; exact ⟨t, by rw [Int.max_eq_left (by omega)]⟩
  · rename_i xs
    obtain ⟨ns, en, e2⟩ := Option.bind_eq_some_iff.mp e
    obtain ⟨M, eM, rfl⟩ := Option.map_eq_some_iff.mp e2
    rw [Rds] at r
    obtain ⟨v, vs', rfl, r1, r2⟩ := r
    rw [Rds] at r2; subst r2
    obtain ⟨a, ws, n, rfl, ga, ra⟩ := rd_list.mp r1
    have hI := ints_are ra en
    obtain ⟨ys, ey⟩ := hI.allInts.items
    have hL : s.heap.IsList a (intItems ys) := ⟨_, hg _ _ ga, rfl, n, by rw [← ey]⟩
    have hns : ns = ys.toList.map (·.1) := by rw [← hI.numsOf, ← nums_intItems, ← ey]
    cases ns with
    | nil => simp [maxL] at eM
    | cons b ns =>
      simp only [maxL] at eM; cases eM
      have hsz : 0 < ys.size := by
        have := congrArg List.length hns
        simp at this; omega
      refine max_intList R.hand hL hsz fun v h' tk hv hk => ?_
      obtain ⟨t, rfl⟩ := intItems_at hv
      obtain ⟨h1, h2⟩ := argBest_gt (numAt ys) (ys.size - 1)
      refine hQ _ h' tk g (Step.keep hg hk) (rd_int.mpr ⟨t, ?_⟩)
      have f := foldl_max ns b
      rw [hns] at f
      have m1 : numAt ys (argBest (fun i j => decide (numAt ys i > numAt ys j)) (ys.size - 1)) ∈ ys.toList.map (·.1) := by
        rw [numAt_eq]; exact getD_mem (by rw [List.length_map, Array.length_toList]; omega)
      have m2 : ∀ x ∈ ys.toList.map (·.1), x ≤ numAt ys (argBest (fun i j => decide (numAt ys i > numAt ys j)) (ys.size - 1)) := fun x hx => by
        obtain ⟨j, hj, rfl⟩ := mem_getD hx
        rw [List.length_map, Array.length_toList] at hj
        rw [← numAt_eq]; exact h2 j (by omega)
      congr 1
      exact Int.le_antisymm (f.2 _ m1) (m2 _ f.1)
  · cases e

theorem perm_sorted_eq : ∀ {a b : List Int}, a.Perm b → a.Pairwise (· ≥ ·) → b.Pairwise (· ≥ ·) → a = b
  | [], b, p, _, _ => by simpa using p.symm.eq_nil
  | x :: a, [], p, _, _ => by simp at p
  | x :: a, y :: b, p, ha, hb => by
    rw [List.pairwise_cons] at ha hb
    have hx : x ≤ y := by
      have : x ∈ y :: b := p.mem_iff.mp (List.mem_cons_self ..)
      rcases List.mem_cons.mp this with q | q
      · omega
      · exact hb.1 x q
    have hy : y ≤ x := by
      have : y ∈ x :: a := p.mem_iff.mpr (List.mem_cons_self ..)
      rcases List.mem_cons.mp this with q | q
      · omega
      · exact ha.1 y q
    have : x = y := Int.le_antisymm hx hy
    subst this
    rw [perm_sorted_eq (List.Perm.cons_inv p) ha.2 hb.2]
noncomputable def insD (x : Int) : List Int → List Int
  | [] => [x]
  | y :: r => if y ≤ x then x :: y :: r else y :: insD x r
noncomputable def sortD : List Int → List Int
  | [] => []
  | x :: r => insD x (sortD r)
theorem insD_perm (x : Int) : ∀ l, (insD x l).Perm (x :: l)
  | [] => List.Perm.refl _
  | y :: r => by
    unfold insD
    split
    · exact List.Perm.refl _
    · exact ((insD_perm x r).cons y).trans (List.Perm.swap x y r)
theorem sortD_perm : ∀ l, (sortD l).Perm l
  | [] => List.Perm.refl _
  | x :: r => (insD_perm x _).trans ((sortD_perm r).cons x)
theorem insD_sorted (x : Int) : ∀ l : List Int, l.Pairwise (· ≥ ·) → (insD x l).Pairwise (· ≥ ·)
  | [], _ => by simp [insD]
  | y :: r, h => by
    unfold insD
    rw [List.pairwise_cons] at h
    split
    · rename_i hyx
      rw [List.pairwise_cons, List.pairwise_cons]
      refine ⟨fun z hz => ?_, h⟩
      rcases List.mem_cons.mp hz with q | q
      · subst q; exact hyx
      · have := h.1 z q; show z ≤ x; have : z ≤ y := this; omega
    · rename_i hyx
      rw [List.pairwise_cons]
      refine ⟨fun z hz => ?_, insD_sorted x r h.2⟩
      rcases List.mem_cons.mp ((insD_perm x r).mem_iff.mp hz) with q | q
      · subst q; show z ≤ y; omega
      · exact h.1 z q
theorem sortD_sorted : ∀ l, (sortD l).Pairwise (· ≥ ·)
  | [] => List.Pairwise.nil
  | x :: r => insD_sorted x _ (sortD_sorted r)

noncomputable def sortedV (d : PV) : Option PV := (asList d).bind fun xs => if xs.length < 64 then (intsOf xs).map fun ns => .list ((sortD ns).map .int) else none
theorem E_sorted {x : Str} {p pos kp cp : Pos} {kk : Nat} {e : Expr} {f : St → Option PV} (hv : VOk prog w H env names (.Name x p) (.builtin "sorted")) (ha : EOk prog w H k env names e f)
    (he : eval (.Call (.Name x p) [e] [⟨some "reverse", .Constant (.bool true) kk cp, kp⟩] pos) env = (do callWith pos (← eval (.Name x p) env) [] (backTo pos (starEach [e] env)) (backToKw pos (keywordEach [⟨some "reverse", .Constant (.bool true) kk cp, kp⟩] env))) := by rfl)
    (hst0 : notStar e = true := by rfl) :
    EOk prog w H k env names (.Call (.Name x p) [e] [⟨some "reverse", .Constant (.bool true) kk cp, kp⟩] pos) (fun σ => (f σ).bind sortedV) := by
  refine ⟨?_⟩
  intro A s base g σ d Q R F e' hQ
  have hst : backTo pos (starEach [e] env) = (false, eval e env) :: backTo pos (starEach [] env) := by rw [star_cons hst0]; rfl
  have hplain : (backTo pos (starEach [e] env)).any (·.1) = false := by rw [hst]; rfl
  obtain ⟨dl, ed, e2⟩ := Option.bind_eq_some_iff.mp e'
  unfold sortedV at e2
  obtain ⟨xs, ex, e3⟩ := Option.bind_eq_some_iff.mp e2
  cases dl <;> simp only [asList] at ex <;> first | (cases ex; done) | skip
  cases ex
  split at e3
  · rename_i hl
    obtain ⟨ns, en, rfl⟩ := Option.map_eq_some_iff.mp e3
    rw [he]
    refine wpAny_bind (hv.out A s base g σ _ F ?_)
    refine callWith_kw ?_ hst hplain
    rw [hst]
    refine spliced_cons ?_
    refine ha.out A s base g σ _ _ R F ed fun v h1 t1 g1 T1 r1 => ?_
    refine spliced_nil ?_
    refine kws_cons ?_
    refine wpAny_pure ?_
    refine kws_nil ?_
    obtain ⟨a, ws, n, rfl, ga, ra⟩ := rd_list.mp r1
    have hL : ({ s with heap := h1, toks := t1 } : Shared).heap.IsList a ws.toArray := ⟨_, T1.into _ _ ga, rfl, n, rfl⟩
    have hI := ints_are ra en
    show wpAny (model prog w) A (call (.builtin "sorted") [.ref a] [(Str.ofString "reverse", .bool true)]) Q NoE { s with heap := h1, toks := t1 }
    refine sorted_ints_rev hL hI (by rw [ra.len]; exact hl) fun out ns' i' p' o' => ?_
    obtain ⟨c, hc⟩ := sortedAll_at h1 ws out
    have X : Ext h1 (sortedAll h1 ws out) := fun b o q => sortedAll_old q
    have e1 : ns' = sortD ns := perm_sorted_eq (p'.trans (sortD_perm ns).symm) o' (sortD_sorted ns)
    have n0 : h1.get? (h1.objs.size + 1) = none := by
      cases q : h1.get? (h1.objs.size + 1) with
      | none => rfl
      | some o => exact absurd (Heap.lt_size q) (Nat.not_lt.mpr (Nat.le_succ _))
    have G := Step.grow T1.into X
    refine hQ _ (sortedAll h1 ws out) t1 (grow g1 h1 (sortedAll h1 ws out)) (T1.trans G) (rd_list.mpr ⟨h1.objs.size + 1, out.toList, c, rfl, grow_new T1.into n0 ?_, ?_⟩)
    · rw [hc]
    · rw [← e1]; exact ints_of i'
  · cases e3

theorem E_tupleOf {x : Str} {p pos : Pos} {e : Expr} {f : St → Option (List PV)} (hv : VOk prog w H env names (.Name x p) (.type "tuple")) (ha : PkOk prog w H k env names e f) (hp : PlainArgs env [e]) (hst : notStar e = true := by rfl) :
    EOk prog w H k env names (.Call (.Name x p) [e] [] pos) (fun σ => (f σ).bind fun xs => if xs.length ≤ lim then some (.tup xs) else none) := by
  refine ⟨?_⟩
  intro A s base g σ d Q R F e' hQ
  obtain ⟨xs, ex, e2⟩ := Option.bind_eq_some_iff.mp e'
  split at e2
  · rename_i hl
    cases e2
    rw [arm_call]
    refine wpAny_bind (hv.out A s base g σ _ F ?_)
    refine PyProof.Rows.callWith_type (hp pos).1 (evalArgs_A (hp pos).2 ?_)
    rw [star_cons hst]
    refine spliced_cons ?_
    show wpAny _ _ (eval e env) _ _ _
    refine ha.out A s base g σ xs _ R F ex fun a vs n h1 t1 g1 T1 o1 r1 => ?_
    refine spliced_nil ?_
    have hL : ({ s with heap := h1, toks := t1 } : Shared).heap.IsList a vs.toArray := ⟨_, o1, rfl, n, rfl⟩
    refine call_tuple_list hL (fun h' hk => ?_) (by rw [List.size_toArray, r1.len, sizeLine_eq]; rw [lim_eq] at hl; omega)
    have X : Ext h1 (h'.push (tupObj vs 0)) := fun b o q => Heap.get?_push_of_some _ (hk b o q)
    refine hQ _ (h'.push (tupObj vs 0)) t1 (grow g1 h1 (h'.push (tupObj vs 0))) (T1.trans (Step.grow T1.into X)) (rd_tup.mpr ⟨_, vs, 0, rfl, grow_new T1.into (none_at hk) (Heap.get?_push_size _ rfl), Rds.mono (Step.grow T1.into X).sub _ _ r1⟩)
  · cases e2
end
end
end Mine
end
section
open PySem PySem.W PySem.Calls PyProof.Rows
set_option Elab.async false
set_option maxRecDepth 100000
namespace Mine
noncomputable section

section
variable {prog : Program} {w : World} {H : View} {k : Nat} {env : Env} {names : Names}

noncomputable def whileV (ft : St → Option Bool) (fb : St → Option Out) : Nat → St → Option Out
  | 0, _ => none
  | n + 1, σ => match ft σ with
    | none => none
    | some false => some (.next σ)
    | some true => match fb σ with
      | some (.next σ') => whileV ft fb n σ'
      | some (.cont σ') => whileV ft fb n σ'
      | some (.brk σ') => some (.next σ')
      | some (.ret d) => some (.ret d)
      | none => none
theorem S_while {test : Expr} {body : List Stmt} {pos : Pos} {ft : St → Option Bool} {fb : St → Option Out} (n : Nat) (ht : TOk prog w H k env names test ft) (hb : XOk prog w H k env names body fb) :
    SOk prog w H k env names (.While test body [] pos) (whileV ft fb n) := by
  refine ⟨?_⟩
  intro A s base g σ o Q R F e hQ
  refine wpAny_While ?_
  refine codeAny_whileLoop (fun m s' => ∃ h tk g' σ', s' = { s with heap := h, toks := tk } ∧ Sub g g' ∧ (∀ b x, base b = some x → g b = none → g' b = none) ∧ FRel H env.locals names base σ' g' h ∧ whileV ft fb m σ' = some o) ?_ n ⟨s.heap, s.toks, g, σ, rfl, Sub.refl g, fun _ _ _ n => n, F, e⟩
  rintro m s' ⟨h, tk, g', σ', rfl, S', B', F', e'⟩
  cases m with
  | zero => simp [whileV] at e'
  | succ m =>
    rw [whileV] at e'
    cases et : ft σ' with
    | none => rw [et] at e'; cases e'
    | some b =>
      rw [et] at e'
      refine wpAny_mono (ht.out A { s with heap := h, toks := tk } base g' σ' b (fun b' s2 => b' = b ∧ ∃ h1 t1 g1, s2 = { s with heap := h1, toks := t1 } ∧ Step h g' h1 g1) R F' et fun h1 t1 g1 T1 => ⟨rfl, h1, t1, g1, rfl, T1⟩) ?_ fun _ _ x => x.elim
      · rintro b' s2 ⟨rfl, h1, t1, g1, rfl, T1⟩
        have B1 : ∀ b x, base b = some x → g b = none → g1 b = none := fun b x eb n => T1.base F'.subB b x eb (B' b x eb n)
        cases b' with
        | false =>
          cases e'
          rw [if_neg Bool.false_ne_true]
          exact wpAny_execs_nil (hQ .next h1 t1 g1 (S'.trans T1.sub) B1 ⟨rfl, F'.step T1⟩)
        | true =>
          dsimp only at e'
          rw [if_pos rfl]
          cases eb : fb σ' with
          | none => rw [eb] at e'; cases e'
          | some o1 =>
            rw [eb] at e'
            refine wpAny_mono (hb.out A { s with heap := h1, toks := t1 } base g1 σ' o1 (fun fl s3 => ∃ h2 t2 g2, s3 = { s with heap := h2, toks := t2 } ∧ Sub g1 g2 ∧ (∀ b x, base b = some x → g1 b = none → g2 b = none) ∧ OutOk H env.locals names base o1 fl h2 g2) R (F'.step T1) eb fun fl h2 t2 g2 S2 B2 O2 => ⟨h2, t2, g2, rfl, S2, B2, O2⟩) ?_ fun _ _ x => x.elim
            rintro fl s3 ⟨h2, t2, g2, rfl, S2, B2, O2⟩
            have S3 := (S'.trans T1.sub).trans S2
            have B3 : ∀ b x, base b = some x → g b = none → g2 b = none := fun b x eb n => B2 b x eb (B1 b x eb n)
            cases o1 with
            | next σ2 => obtain ⟨rfl, F2⟩ := O2; exact ⟨m, Nat.lt_succ_self _, h2, t2, g2, σ2, rfl, S3, B3, F2, e'⟩
            | cont σ2 => obtain ⟨rfl, F2⟩ := O2; exact ⟨m, Nat.lt_succ_self _, h2, t2, g2, σ2, rfl, S3, B3, F2, e'⟩
            | brk σ2 => obtain ⟨rfl, F2⟩ := O2; cases e'; exact hQ .next h2 t2 g2 S3 B3 ⟨rfl, F2⟩
            | ret d => obtain ⟨v, rfl, r⟩ := O2; cases e'; exact hQ _ h2 t2 g2 S3 B3 ⟨v, rfl, r⟩

theorem T_tup {e : Expr} {f : St → Option PV} (he : EOk prog w H k env names e f)
    (hw : ∀ (M : Model) (A : Around) (E : Value → Shared → Prop) (Q : Bool → Shared → Prop) (s : Shared), wpAny M A (eval e env) (fun v s' => wpAny M A (truthy v) Q E s') E s → wpAny M A (isTrue e env (eval e env)) Q E s) :
    TOk prog w H k env names e (fun σ => (f σ).bind fun d => (asTup d).bind fun xs => if xs.length ≤ lim then some (!xs.isEmpty) else none) := by
  refine ⟨?_⟩
  intro A s base g σ b Q R F e' hQ
  obtain ⟨d, ed, e2⟩ := Option.bind_eq_some_iff.mp e'
  obtain ⟨xs, ex, e3⟩ := Option.bind_eq_some_iff.mp e2
  cases d <;> simp only [asTup] at ex <;> first | (cases ex; done) | skip
  cases ex
  split at e3
  · rename_i hl
    cases e3
    refine hw _ _ _ _ _ (he.out A s base g σ _ _ R F ed fun v h1 t1 g1 T1 r1 => ?_)
    obtain ⟨a, vs, n, rfl, ga, ra⟩ := rd_tup.mp r1
    have hT : IsTup ({ s with heap := h1, toks := t1 } : Shared).heap a vs.toArray := ⟨_, T1.into _ _ ga, rfl, n, rfl⟩
    refine truthy_tuple hT (by rw [List.size_toArray, ra.len]; rw [lim_eq] at hl; omega) ?_
    have e1 : (!vs.toArray.isEmpty) = !xs.isEmpty := by
      have := ra.len
      cases vs <;> cases xs <;> simp_all
    rw [e1]
    exact hQ h1 _ g1 T1
  · cases e3
theorem E_cutT {a : Expr} {c kk : Nat} {cp p pos : Pos} {fa : St → Option PV} (ha : EOk prog w H k env names a fa) (hc : 1 ≤ c)
    (hs : ∀ t u, subscripted (.Slice (some (.Constant (.int c) kk cp)) none none p) false (.ref t) (.ref u) = operate [.ref u, .ref t] (getItem (.ref t) (.ref u)) := by intro _ _; with_unfolding_all rfl)
    (hg : ∀ t r, letTemporaryGo a (.ref t) r = pure () := by intro _ _; with_unfolding_all rfl) :
    EOk prog w H k env names (.Subscript a (.Slice (some (.Constant (.int c) kk cp)) none none p) pos) (fun σ => (fa σ).bind fun d => (asTup d).bind fun xs => if c ≤ xs.length ∧ xs.length ≤ lim then some (.tup (xs.drop c)) else none) := by
  refine ⟨?_⟩
  intro A s base g σ d Q R F e' hQ
  obtain ⟨d, ed, e2⟩ := Option.bind_eq_some_iff.mp e'
  obtain ⟨xs, ex, e3⟩ := Option.bind_eq_some_iff.mp e2
  cases d <;> simp only [asTup] at ex <;> first | (cases ex; done) | skip
  cases ex
  split at e3
  · rename_i hl
    cases e3
    refine Subscript_ (ha.out A s base g σ _ _ R F ed fun v h1 t1 g1 T1 r1 => ?_)
    obtain ⟨t, vs, n, rfl, ga, ra⟩ := rd_tup.mp r1
    refine wpAny_Slice ?_
    show wpAny _ _ (eval (.Constant (.int c) kk cp) env) _ _ _
    refine wpAny_Constant_int ?_
    refine wpAny_pure ?_
    refine wpAny_pure ?_
    have ot : h1.get? t = some (tupObj vs n) := T1.into _ _ ga
    have hT : IsTup (h1.push { cls := .type "slice", data := .fields #[.int c t1, .none, .none] }) t vs.toArray := ⟨_, Heap.get?_push_of_some _ ot, rfl, n, rfl⟩
    refine subscriptTail_ops (s := { s with heap := h1.push { cls := .type "slice", data := .fields #[.int c t1, .none, .none] }, toks := t1 + 1 }) hT.typeIs slot_tuple_getitem.lookup
      (getItem_tuple_from (s := { s with heap := h1.push { cls := .type "slice", data := .fields #[.int c t1, .none, .none] }, toks := t1 + 1 }) hT (Heap.IsSliceOf.new ..) hc (by rw [List.size_toArray, ra.len]; exact hl.1) ?_ (by rw [List.size_toArray, ra.len, sizeLine_eq]; rw [lim_eq] at hl; omega)) (hs _ _) (hg _)
    have X : Ext h1 ((h1.push { cls := .type "slice", data := .fields #[.int c t1, .none, .none] }).push (tupObj (vs.drop c) 0)) := (Ext.push _ _).trans (Ext.push _ _)
    have G := Step.grow T1.into X
    refine hQ _ _ _ _ (T1.trans G) (rd_tup.mpr ⟨_, vs.drop c, 0, rfl, grow_new T1.into (none_at (Ext.push _ _)) (Heap.get?_push_size _ rfl), Rds.mono G.sub _ _ (ra.drop c)⟩)
  · cases e3

noncomputable def GMs (name : Str) (id : String) : Prop := ∀ (M : Model) (A : Around) (E : Value → Shared → Prop) (s : Shared) (x : Str) (t : Tok) (pl : Sem Bool) (Q : Value × List Value → Shared → Prop), Q (.builtin id, [.str x t]) s → wpAny M A (getMethod (.str x t) name pl) Q E s
theorem GM_join : GMs "join" "str.join" := fun _ _ _ _ _ _ _ _ h => GM.join h
theorem GM_split : GMs "split" "str.split" := fun _ _ _ _ _ _ _ _ h => GM.split h
noncomputable def methf (F : List PV → Option PV) (fo : St → Option PV) (fs : St → Option (List PV)) (σ : St) : Option PV := match fo σ with
  | some (.str x) => (fs σ).bind fun ds => F (.str x :: ds)
  | _ => none
theorem E_strMeth {o : Expr} {name : Str} {id : String} {apos pos : Pos} {args : List Expr} {pl : Sem Bool} {fo : St → Option PV} {fs : St → Option (List PV)} {F : List PV → Option PV} (ho : EOk prog w H k env names o fo) (gm : GMs name id) (hc : COk prog w H k (.builtin id) F)
    (ha : AOk prog w H k env names args fs) (hp : PlainArgs env args)
    (he : eval (.Call (.Attribute o name apos) args [] pos) env = (do
      let ov ← eval o env
      standAt apos.atName
      let (f, first) ← holding [ov] (getMethod ov name pl)
      callWith pos f first (backTo pos (starEach args env)) []) := by rfl) :
    EOk prog w H k env names (.Call (.Attribute o name apos) args [] pos) (methf F fo fs) := by
  refine ⟨?_⟩
  intro A s base g σ d Q R Fr e hQ
  unfold methf at e
  split at e
  · rename_i x ex
    obtain ⟨ds, eds, e2⟩ := Option.bind_eq_some_iff.mp e
    refine MethodCall_ (ho.out A s base g σ _ _ R Fr ex fun v h1 t1 g1 T1 r1 => ?_) he
    obtain ⟨t, rfl⟩ := rd_str.mp r1
    refine gm _ _ _ _ _ _ _ _ ?_
    refine callWith_builtin (hp pos).1 (evalArgs_A (hp pos).2 (ha.out A pos _ base g1 σ ds _ R (Fr.step T1) eds fun vs h2 t2 g2 T2 r2 => ?_))
    refine hc.out A _ g2 _ (.str x :: ds) d _ R (Fr.home.trans (T1.sub.trans T2.sub)) T2.into (Rds.cons (rd_str.mpr ⟨t, rfl⟩) r2) e2 fun v h3 t3 g3 T3 r3 => hQ v h3 t3 g3 ((T1.trans T2).trans T3) r3
  · cases e

noncomputable def strsOf : List PV → Option (List (List Nat))
  | [] => some []
  | .str s :: r => (strsOf r).map (s :: ·)
  | _ => none
theorem strs_are {g : View} : ∀ {xs : List PV} {vs : List Value} {ss : List (List Nat)}, Rds g xs vs → strsOf xs = some ss → StrsAre vs (ss.map txt)
  | [], _, _, r, e => by rw [Rds] at r; subst r; simp only [strsOf] at e; cases e; exact .nil
  | x :: xs, _, _, r, e => by
    rw [Rds] at r
    obtain ⟨v, vs', rfl, r1, r2⟩ := r
    cases x <;> simp only [strsOf] at e <;> first | (cases e; done) | skip
    obtain ⟨ns', e2, rfl⟩ := Option.map_eq_some_iff.mp e
    obtain ⟨t, rfl⟩ := rd_str.mp r1
    exact .cons _ t (strs_are r2 e2)
noncomputable def joinL (sep : List Nat) : List (List Nat) → List Nat
  | [] => []
  | [x] => x
  | x :: y :: r => x ++ sep ++ joinL sep (y :: r)
theorem join_txt (sep : List Nat) : ∀ l : List (List Nat), Str.join (txt sep) (l.map txt) = txt (joinL sep l)
  | [] => rfl
  | [x] => rfl
  | x :: y :: r => by
    show txt x ++ txt sep ++ Str.join (txt sep) ((y :: r).map txt) = _
    rw [join_txt sep (y :: r), txt_append, txt_append]; rfl
noncomputable def joinV : List PV → Option PV
  | [.str sep, .list xs] => (strsOf xs).bind fun ss => if (ss.map List.length).sum + ss.length * sep.length ≤ lim then some (.str (joinL sep ss)) else none
  | _ => none
theorem C_join : COk prog w H k (.builtin "str.join") joinV := by
  refine ⟨?_⟩
  intro A s g vs ds d Q R hH hg r e hQ
  unfold joinV at e
  split at e
  · rename_i sep xs
    obtain ⟨ss, es, e2⟩ := Option.bind_eq_some_iff.mp e
    split at e2
    · rename_i hl
      cases e2
      rw [Rds] at r
      obtain ⟨v, vs', rfl, r1, r2⟩ := r
      rw [Rds] at r2
      obtain ⟨v', vs'', rfl, r2, r3⟩ := r2
      rw [Rds] at r3; subst r3
      obtain ⟨t, rfl⟩ := rd_str.mp r1
      obtain ⟨a, ws, n, rfl, ga, ra⟩ := rd_list.mp r2
      have hL : s.heap.IsList a ws.toArray := ⟨_, hg _ _ ga, rfl, n, rfl⟩
      refine PyProof.Rows.join_list hL (strs_are ra es) ?_ fun t' tk => ?_
      · rw [List.map_map, List.length_map, txt_length]
        have : (Str.length ∘ txt) = List.length := by funext l; exact txt_length l
        rw [this]; rw [lim_eq] at hl; omega
      · have e1 : Txt.join (txt sep) (ss.map txt) = txt (joinL sep ss) := (StrLaws.glued_eq_join _ _).trans (join_txt _ _)
        rw [e1]
        exact hQ _ s.heap tk g (.refl hg) (rd_str.mpr ⟨_, rfl⟩)
    · cases e2
  · cases e
theorem strs_rd {g : View} : ∀ (tk : Nat) (xs : List Str), Rds g (xs.map fun x => .str x.cps.toList) (strValues (numbered tk xs))
  | _, [] => Rds.nil
  | tk, x :: r => Rds.cons (rd_str.mpr ⟨tk, by rw [txt_cps]⟩) (strs_rd (tk + 1) r)
noncomputable def splitV : List PV → Option PV
  | [.str x, .str y] => if y ≠ [] ∧ x.length ≤ lim then some (.list ((Txt.split (txt x) (txt y)).map fun p => .str p.cps.toList)) else none
  | _ => none
theorem C_split : COk prog w H k (.builtin "str.split") splitV := by
  refine ⟨?_⟩
  intro A s g vs ds d Q R hH hg r e hQ
  unfold splitV at e
  split at e
  · rename_i xx yy
    split at e
    · rename_i hl
      cases e
      rw [Rds] at r
      obtain ⟨v, vs', rfl, r1, r2⟩ := r
      rw [Rds] at r2
      obtain ⟨v', vs'', rfl, r2, r3⟩ := r2
      rw [Rds] at r3; subst r3
      obtain ⟨t, rfl⟩ := rd_str.mp r1
      obtain ⟨u, rfl⟩ := rd_str.mp r2
      have hy : ((txt yy).length == 0) = false := by
        rw [txt_length]
        have := hl.1
        cases yy with
        | nil => exact absurd rfl this
        | cons => simp
      have hx : (txt xx).length ≤ lim := by rw [txt_length]; exact hl.2
      rw [lim_eq] at hx
      generalize txt xx = x at *
      generalize txt yy = y at *
      have one : ∀ {tk : Nat} {o : List Str}, o = Txt.split x y → ∀ l : List Value, Rds (grow g s.heap (s.heap.push (listObj l 0))) (o.map fun p => .str p.cps.toList) l →
          Q (.ref s.heap.objs.size) { s with toks := tk, heap := s.heap.push (listObj l 0) } := by
        rintro tk _ rfl l hr
        exact hQ _ _ tk _ (Step.grow hg (Ext.push s.heap (listObj l 0))) (rd_list.mpr ⟨_, l, 0, rfl, grow_new hg fresh_get (Heap.get?_push_size _ rfl), hr⟩)
      cases h1 : (decide (x.length < y.length) || decide (Builtin.Str.strKind x < Builtin.Str.strKind y))
      · cases hf : (Builtin.Str.occurrences x y 0 x.length (x.length + 1)).isEmpty
        · have hn : (Builtin.Str.partsBetween x (Builtin.Str.occurrences x y 0 x.length (x.length + 1)) y.length).length ≤ sizeLine := by
            have e1 : Txt.split x y = Builtin.Str.partsBetween x (Builtin.Str.occurrences x y 0 x.length (x.length + 1)) y.length := (if_neg (ne_true_of_eq_false h1)).trans (if_neg (ne_true_of_eq_false hf))
            rw [← e1, sizeLine_eq]
            have := split_le x y
            omega
          refine call_meets F.slot_str_split (typeIs_str _ _ _) F.entry_str_split (F.args_str_split_2 _ _) (meets_str_split_sep x y t u h1 hy hf (by rw [sizeLine_eq]; omega) hn) ?_
          show wants Q NoE _ { s with toks := _, heap := s.heap.push { cls := .type "list", data := .seq (strsFrom s.toks (Builtin.Str.partsBetween x (Builtin.Str.occurrences x y 0 x.length (x.length + 1)) y.length)).toArray } }
          rw [strsFrom_eq]
          exact one ((if_neg (ne_true_of_eq_false h1)).trans (if_neg (ne_true_of_eq_false hf))).symm _ (strs_rd _ _)
        · exact call_meets F.slot_str_split (typeIs_str _ _ _) F.entry_str_split (F.args_str_split_2 _ _) (meets_str_split_not_found x y t u h1 hy hf)
            (one ((if_neg (ne_true_of_eq_false h1)).trans (if_pos hf)).symm [.str x t] (strs_rd (g := grow g s.heap (s.heap.push (listObj [.str x t] 0))) t [x]))
      · exact call_meets F.slot_str_split (typeIs_str _ _ _) F.entry_str_split (F.args_str_split_2 _ _) (meets_str_split_cannot_occur x y t u h1)
          (one (if_pos h1).symm [.str x t] (strs_rd (g := grow g s.heap (s.heap.push (listObj [.str x t] 0))) t [x]))
    · cases e
  · cases e
end
end
end Mine
end
section
open PySem PySem.W PySem.Calls PyProof.Rows
set_option Elab.async false
set_option maxRecDepth 100000
namespace Mine
noncomputable section

section
variable {prog : Program} {w : World} {H : View} {k : Nat} {env : Env} {names : Names}

theorem setItem_plain {A : Around} {E : Value → Shared → Prop} {s : Shared} {l : Addr} {vs : List Value} {n : Nat} {k : Int} {t : Tok} {v : Value} {Q : Unit → Shared → Prop} (ho : s.heap.get? l = some (listObj vs n)) (h0 : 0 ≤ k) (hfit : k < 2 ^ 63) (hj : k < vs.length)
    (hQ : ∀ h' n', h'.get? l = some (listObj (vs.set k.toNat v) n') → Heap.SameBut l s.heap h' → Q () { s with heap := h' }) :
    wpAny (model prog w) A (setItem (.ref l) (.int k t) v) Q E s := by
  have hl : s.heap.IsList l vs.toArray := ⟨_, ho, rfl, n, rfl⟩
  unfold setItem
  try with_reducible refine wpAny_holding ?_
  first | refine wpAny_bind (wpAny_pure ?_) | skip
  refine wpAny_bind (wpAny_sequenceKey hl.typeIs (by decide) ?_)
  refine wpAny_bind (wpAny_callSpecial?_slot (name := Str.ofString "__setitem__") hl.typeIs slot_list_setitem
    (wpAny_call_entry slot_list_setitem hl.typeIs entry_list_setitem ?_ (args_list_setitem _ _ _)))
  show wpAny _ _ (Builtin.List.listSubscript? (.int k t) >>= _) _ _ s
  refine wpAny_bind (wpAny_listSubscript_int (fitsIndex_of h0 hfit) ?_)
  clear hfit
  obtain ⟨j, rfl⟩ := Int.eq_ofNat_of_zero_le h0
  have hj : j < vs.length := by omega
  have hx' : vs.toArray[j]? = some vs[j] := by simp [hj]
  show wpAny _ _ ((seqItemAt l j >>= fun r => pure (r.map (j, ·))) >>= _) _ _ s
  refine wpAny_bind (wpAny_bind (wpAny_seqItemAt ho rfl (wpAny_pure ?_)))
  rw [hx']
  show wpAny _ _ (setSeqItemAt l j v >>= _) _ _ s
  have em : ∃ n', (listObj vs n).mapSeq (·.setIfInBounds j v) = listObj (vs.set j v) n' := by
    unfold Obj.mapSeq listObj
    simp only
    exact ⟨_, by simp; rfl⟩
  obtain ⟨n', em⟩ := em
  have hfin : (s.heap.update l (Obj.mapSeq (·.setIfInBounds j v))).get? l = some (listObj (vs.set j v) n') := by
    rw [← em]; exact Heap.get?_update_self _ ho (by rw [em]; rfl)
  refine wpAny_bind (wpAny_setSeqItemAt ho rfl ?_)
  first
    | exact wpAny_bind (wpAny_pure (wpAny_pure ⟨.none, rfl, wpAny_pure (hQ _ n' hfin (Heap.SameBut.update ..))⟩))
    | exact wpAny_pure ⟨.none, rfl, wpAny_pure (hQ _ n' hfin (Heap.SameBut.update ..))⟩

theorem S_setitem {x : Str} {p pos' pos : Pos} {ie e : Expr} {fi fe : St → Option PV} (ok : EnvOk env names) (i : Nat) (hi : names[i]? = some (x, SK.loc)) (he : EOk prog w H k env names e fe) (hie : EOk prog w H k env names ie fi)
    (hs : swapsWith e (some (.Subscript (.Name x p) ie pos')) pos.line env = pure false := by rfl) :
    SOk prog w H k env names (.Assign [.Subscript (.Name x p) ie pos'] e pos) (fun σ => match fe σ, fi σ, σ[i]? with
      | some d, some (.int j), some (.own xs) => if 0 ≤ j ∧ j < xs.length ∧ xs.length ≤ lim then some (.next (σ.set i (.own (xs.set j.toNat d)))) else none
      | _, _, _ => none) := by
  refine ⟨?_⟩
  intro A s base g σ o Q R F e' hQ
  dsimp only at e'
  split at e'
  · rename_i d j xs ed ej hown
    split at e'
    · rename_i hj
      cases e'
      obtain ⟨m, ad, X⟩ := F
      refine wpAny_Assign_Subscript (he.out A s base g σ d _ R ⟨m, ad, X⟩ ed fun v h1 t1 g1 T1 r1 => ?_) hs
      have X1 := X.step T1
      obtain ⟨_, hm, ba, ga, vs, n, ho, rs⟩ := X1.slot i x .loc _ hi hown
      refine ld_name ok (List.mem_of_getElem? hi) X1.ns (show Holds h1 m x (.ref (ad i)) .loc from hm) ?_
      refine hie.out A { s with heap := h1, toks := t1 } base g1 σ _ _ R ⟨m, ad, X1⟩ ej fun u h2 t2 g2 T2 r2 => ?_
      obtain ⟨t, rfl⟩ := rd_int.mp r2
      have X2 := X1.step T2
      have o2 : h2.get? (ad i) = some (listObj vs n) := T2.ext _ _ ho
      refine setItem_plain (s := { s with heap := h2, toks := t2 }) o2 hj.1 (by have := hj.2; rw [lim_eq] at this; omega) (by rw [rs.len]; exact hj.2.1) fun h3 n' hl hs' => ?_
      exact hQ .next h3 t2 g2 (T1.sub.trans T2.sub) ((T1.trans T2).base X.subB) ⟨rfl, m, ad, X2.setA hown hl hs' ((Rds.mono T2.sub _ _ rs).set (Rd.mono T2.sub _ _ r1))⟩
    · cases e'
  · cases e'

theorem C_star {a : Addr} {fd : FuncData} {body : List Stmt} {p1 p2 : Str} {names : Addr → Names} {f : St → Option Out} (D : DefOk H a fd body [p1, p2] 2 names)
    (cnt : Nat) (hcnt : cnt ≤ lim) (hbind : ∀ (v : Value) (vs : List Value), vs.length = cnt → bindArgs fd ⟨v :: vs, []⟩ = (do let t ← newTuple vs; pure [(p1, v), (p2, t)])) (hb : ∀ L, XOk prog w H k (callEnvC fd L a) (names L) body f) :
    COk prog w H (k + 1) (.ref a) (fun ds => match ds with
      | d :: ds => if ds.length = cnt then callV 2 2 f [d, .tup ds] else none
      | [] => none) := by
  refine ⟨?_⟩
  intro A s g vs ds d Q R hH hg r e hQ
  cases ds with
  | nil => cases e
  | cons d0 ds =>
    dsimp only at e
    split at e
    · rename_i hl
      rw [Rds] at r
      obtain ⟨v, vs, rfl, r1, r2⟩ := r
      obtain ⟨σ, e1, e2⟩ := Option.bind_eq_some_iff.mp e
      unfold startSt at e1
      rw [if_pos (by rfl)] at e1
      cases e1
      obtain ⟨o, ho, hd⟩ := D.at_
      have hS : Sub H s.heap.get? := hH.trans hg
      refine wpAny_call ?_
      have hroom : A.depth < recursionLimit := by have := R.depth; omega
      refine codeAny_call_function hroom (hS _ _ ho) hd D.co D.gen D.body (D.code _ hS) ?_
      rw [hbind v vs (by rw [r2.len]; exact hl), D.clo]
      have hsz : vs.length ≤ sizeLine := by rw [r2.len, sizeLine_eq]; rw [lim_eq] at hcnt; omega
      refine wpAny_bind ?_
      show wpAny _ _ (newObj (.type "tuple") (.seq vs.toArray)) _ _ _
      refine wpAny_newObj_type (wpAny_pure ?_) (by show vs.toArray.size ≤ sizeLine; simpa using hsz)
      have X : Ext s.heap (s.heap.push (tupObj vs 0)) := Ext.push _ _
      have G := Step.grow hg X
      have rt : Rd (grow g s.heap (s.heap.push (tupObj vs 0))) (.tup ds) (.ref s.heap.objs.size) := rd_tup.mpr ⟨_, vs, 0, rfl, grow_new hg fresh_get (Heap.get?_push_size _ rfl), Rds.mono G.sub _ _ r2⟩
      have rr : Rds (grow g s.heap (s.heap.push (tupObj vs 0))) [d0, .tup ds] [v, .ref s.heap.objs.size] := Rds.cons (Rd.mono G.sub _ _ r1) (Rds.cons rt Rds.nil)
      refine wpAny_newFunctionEnv_cells (s := { s with heap := s.heap.push (tupObj vs 0) }) D.kind (fun x hx => ?_) fun env he s' x => ?_
      · have : x.1 ∈ [p1, p2] := by
          simp at hx
          rcases hx with rfl | rfl <;> simp
        exact D.par _ _ this
      · subst he
        refine ⟨(D.lim _ hS).keeps fun b o q => x.toInCall.keep b o (X b o q), codeAny_func ?_⟩
        exact body_ok (s := { s with heap := s.heap.push (tupObj vs 0) }) (R.deeper _) (hb _) x.toInCall.same (start_rel D (s₀ := { s with heap := s.heap.push (tupObj vs 0) }) (hH.trans G.sub) G.into rr rfl x) e2 fun v h' tk g' T' r' => hQ v h' tk g' (G.trans T') r'
    · cases e

end
end
end Mine
end
section
open PySem PySem.W PySem.Calls PyProof.Rows
set_option Elab.async false
set_option maxRecDepth 100000
namespace Mine
noncomputable section

noncomputable def attrV (name : Str) : List Str → List PV → Option PV
  | n :: ns, x :: xs => if n = name then some x else attrV name ns xs
  | _, _ => none
theorem isStr_key {v : Value} {n name : Str} (e : keyName v = some n) : v.isStr name = decide (n = name) := by
  cases v <;> simp [keyName] at e
  subst e
  rename_i s t
  by_cases h : s = name
  · subst h; simp [Value.isStr]
  · simp [Value.isStr, h]
theorem refKey_key {e : DictEntry} {n : Str} (h : keyName e.key = some n) : e.refKey = false := by
  unfold DictEntry.refKey
  cases hk : e.key <;> simp_all [keyName]
theorem getL_attr {g : View} {name : Str} {d : PV} : ∀ (es : List DictEntry) (ns : List Str) (xs : List PV), es.map (fun e => keyName e.key) = ns.map some → Rds g xs (es.map DictEntry.val) → attrV name ns xs = some d →
    ∃ v, getL name es = some (some v) ∧ Rd g d v
  | [], ns, xs, hk, r, e => by
    cases ns with
    | nil => cases xs <;> simp [attrV] at e
    | cons => simp at hk
  | en :: es, ns, xs, hk, r, e => by
    cases ns with
    | nil => simp at hk
    | cons n ns =>
      simp only [List.map_cons, List.cons.injEq] at hk
      cases xs with
      | nil => simp [attrV] at e
      | cons x xs =>
        obtain ⟨r1, r2⟩ := r.of_cons
        rw [attrV] at e
        have hs := isStr_key (name := name) hk.1
        by_cases h : n = name
        · rw [if_pos h] at e; cases e
          refine ⟨en.val, ?_, r1⟩
          unfold getL
          rw [List.find?_cons, hs]
          simp [h]
        · rw [if_neg h] at e
          obtain ⟨v, hv, rv⟩ := getL_attr es ns xs hk.2 r2 e
          refine ⟨v, ?_, rv⟩
          unfold getL at hv ⊢
          rw [List.find?_cons, hs]
          simp only [h, decide_false, List.any_cons, refKey_key hk.1, Bool.false_or]
          exact hv
theorem getL_none {name : Str} : ∀ (es : List DictEntry) (ns : List Str), es.map (fun e => keyName e.key) = ns.map some → name ∉ ns → getL name es = some none
  | [], ns, hk, hn => rfl
  | en :: es, ns, hk, hn => by
    cases ns with
    | nil => simp at hk
    | cons n ns =>
      simp only [List.map_cons, List.cons.injEq] at hk
      simp only [List.mem_cons, not_or] at hn
      have ih := getL_none es ns hk.2 hn.2
      have hs := isStr_key (name := name) hk.1
      unfold getL at ih ⊢
      rw [List.find?_cons, hs]
      simp only [Ne.symm hn.1, decide_false, List.any_cons, refKey_key hk.1, Bool.false_or]
      exact ih
theorem putL_new {name : Str} {hsh : Int} {key v : Value} : ∀ (es : List DictEntry) (ns : List Str), es.map (fun e => keyName e.key) = ns.map some → name ∉ ns → putL name hsh key v es = es ++ [⟨hsh, key, v⟩]
  | [], ns, hk, hn => rfl
  | en :: es, ns, hk, hn => by
    cases ns with
    | nil => simp at hk
    | cons n ns =>
      simp only [List.map_cons, List.cons.injEq] at hk
      simp only [List.mem_cons, not_or] at hn
      rw [putL, isStr_key (name := name) hk.1]
      simp only [Ne.symm hn.1, decide_false, Bool.false_eq_true, if_false]
      rw [putL_new es ns hk.2 hn.2]; rfl
theorem rd_handed {g : View} {d : PV} {v : Value} (r : Rd g d v) : handedIn v = true := by
  cases d with
  | none => rw [rd_none.mp r]; rfl
  | bool b => rw [rd_bool.mp r]; rfl
  | int i => obtain ⟨t, rfl⟩ := rd_int.mp r; rfl
  | str x => obtain ⟨t, rfl⟩ := rd_str.mp r; rfl
  | tup xs => obtain ⟨a, _, _, rfl, _⟩ := rd_tup.mp r; rfl
  | list xs => obtain ⟨a, _, _, rfl, _⟩ := rd_list.mp r; rfl
  | inst C ns xs => obtain ⟨a, _, _, _, rfl, _⟩ := rd_inst.mp r; rfl

noncomputable def KH (K : Frag) (H : View) : Prop := ∀ a o, K.lookup a = some o → H a = some o
theorem KH.in_ {K : Frag} {H : View} (x : KH K H) {h : Heap} (S : Sub H h.get?) : K.In h := fun a o e => S _ _ (x a o e)
structure AttrK (K : Frag) (C : Addr) (name : Str) : Prop where
  plain : plainGet K C name = true
  has : hasDictIn K C = true
  over : ∃ attr, findIn K (.ref C) name = some attr ∧ noGet K attr = true
structure SetK (K : Frag) (C : Addr) (name : Str) : Prop where
  set : findIn K (.ref C) "__setattr__" = some (some (.builtin "object.__setattr__"))
  only : plainOver K C = true
  take : takerIn K C name = some none
  has : hasDictIn K C = true

section
variable {prog : Program} {w : World} {H : View} {k : Nat} {env : Env} {names : Names} {K : Frag} {C : Addr}

noncomputable def instAttr (C : Addr) (name : Str) : PV → Option PV
  | .inst C' ns xs => if C' = C then attrV name ns xs else none
  | _ => none
theorem get_inst {A : Around} {E : Value → Shared → Prop} {s : Shared} {x dx : Addr} {es : List DictEntry} {n : Nat} {ns : List Str} {xs : List PV} {g : View} {name : Str} {d : PV} {Q : Value → Shared → Prop} (KX : K.In s.heap) (a : AttrK K C name) (hx : s.heap.get? x = some (instObj C dx)) (hd : s.heap.get? dx = some (dictOf es n))
    (hk : es.map (fun e => keyName e.key) = ns.map some) (r : Rds g xs (es.map DictEntry.val)) (e : attrV name ns xs = some d) (hQ : ∀ v tk, Rd g d v → Q v { s with toks := tk }) : wpAny (model prog w) A (getAttr (.ref x) name true) Q E s := by
  obtain ⟨v, hv, rv⟩ := getL_attr es ns xs hk r e
  obtain ⟨attr, h1, h2⟩ := a.over
  exact get_value KX (⟨hx, rfl, rfl, hd⟩ : InstAt s.heap x (instObj C dx) C (some (dictOf es n))) (plainGet_of a.plain).1 (findObj_own a.has h1 h2 hv) (rd_handed rv) (hQ v _ rv)
theorem E_attr {e : Expr} {name : Str} {pos : Pos} {f : St → Option PV} (kh : KH K H) (a : AttrK K C name) (h : EOk prog w H k env names e f)
    (he : eval (.Attribute e name pos) env = (do
      let o ← eval e env
      standAt pos.atName
      let r ← holding [o] (getAttr o name true)
      letTemporaryGo e o r
      pure r) := by with_unfolding_all rfl) : EOk prog w H k env names (.Attribute e name pos) (fun σ => (f σ).bind (instAttr C name)) := by
  refine ⟨?_⟩
  intro A s base g σ d Q R F e' hQ
  obtain ⟨o, eo, e2⟩ := Option.bind_eq_some_iff.mp e'
  cases o <;> simp only [instAttr] at e2 <;> first | (cases e2; done) | skip
  split at e2
  · rename_i hC
    subst hC
    refine Attribute_any_ (h.out A s base g σ _ _ R F eo fun v h1 t1 g1 T1 r1 => ?_) he
    obtain ⟨x, dx, es, n, rfl, gx, gd, hk, r⟩ := rd_inst.mp r1
    exact get_inst (s := { s with heap := h1, toks := t1 }) (kh.in_ (F.home.trans (T1.sub.trans T1.into))) a (T1.into _ _ gx) (T1.into _ _ gd) hk r e2 fun v tk rv => hQ v h1 tk g1 T1 rv
  · cases e2
noncomputable def selfAttr (i : Nat) (C : Addr) (name : Str) (σ : St) : Option PV := match σ[i]? with
  | some (.self _ C' ns xs) => if C' = C then attrV name ns xs else none
  | _ => none
theorem E_attrSelf {x name : Str} {p pos : Pos} {sk : SK} (kh : KH K H) (a : AttrK K C name) (ok : EnvOk env names) (i : Nat) (hi : names[i]? = some (x, sk))
    (he : eval (.Attribute (.Name x p) name pos) env = (do
      let o ← eval (.Name x p) env
      standAt pos.atName
      let r ← holding [o] (getAttr o name true)
      letTemporaryGo (.Name x p) o r
      pure r) := by with_unfolding_all rfl) : EOk prog w H k env names (.Attribute (.Name x p) name pos) (selfAttr i C name) := by
  refine ⟨?_⟩
  intro A s base g σ d Q R F e' hQ
  unfold selfAttr at e'
  split at e'
  · rename_i a0 C' ns xs hs
    split at e'
    · rename_i hC
      subst hC
      obtain ⟨m, ad, X⟩ := F
      obtain ⟨rfl, hm, ba, ga, dx, es, n, ho, hdL, hb', hg', hd, hk, r, _⟩ := X.slot i x sk _ hi hs
      refine Attribute_any_ (ld_name ok (List.mem_of_getElem? hi) X.ns (show Holds s.heap m x (.ref (ad i)) .loc from hm) ?_) he
      exact get_inst (kh.in_ (X.home.trans X.subG)) a ho hd hk r e' fun v tk rv => hQ v s.heap tk g (.refl X.subG) rv
    · cases e'
  · cases e'
theorem E_clsAttr {x name : Str} {p pos : Pos} {v mc : Value} {d : PV} (kh : KH K H) (hv : VOk prog w H env names (.Name x p) (.ref C)) (hr : readsIn K C mc = true) (ef : findCls K (.ref C) mc name = some (.val v)) (r : Rd H d v)
    (he : eval (.Attribute (.Name x p) name pos) env = (do
      let o ← eval (.Name x p) env
      standAt pos.atName
      let r ← holding [o] (getAttr o name true)
      letTemporaryGo (.Name x p) o r
      pure r) := by with_unfolding_all rfl) : EOk prog w H k env names (.Attribute (.Name x p) name pos) (fun _ => some d) := by
  refine ⟨?_⟩
  intro A s base g σ d' Q R F e' hQ
  cases e'
  refine Attribute_any_ (hv.out A s base g σ _ F ?_) he
  exact cls_value (kh.in_ (F.home.trans F.subG)) hr ef (rd_handed r) (hQ v s.heap _ g (.refl F.subG) (Rd.mono F.home _ _ r))

structure MethK (K : Frag) (C : Addr) (name : Str) (f : Addr) : Prop where
  plain : plainGet K C name = true
  find : findIn K (.ref C) name = some (some (.ref f))
  fn : isFn K (.ref f) = true
noncomputable def asInst (C : Addr) (name : Str) : PV → Option PV
  | .inst C' ns xs => if C' = C ∧ name ∉ ns then some (.inst C' ns xs) else none
  | _ => none
noncomputable def methI (C : Addr) (name : Str) (F : List PV → Option PV) (fo : St → Option PV) (fs : St → Option (List PV)) (σ : St) : Option PV := (fo σ).bind fun o => (asInst C name o).bind fun o => (fs σ).bind fun ds => F (o :: ds)
theorem set_attr {A : Around} {E : Value → Shared → Prop} {s : Shared} {L x dx : Addr} {m : Str → Option Value} {es : List DictEntry} {n : Nat} {name : Str} {v : Value} {Q : Unit → Shared → Prop} (KX : K.In s.heap) (a : SetK K C name) (hn : s.heap.Ns L m) (hx : s.heap.get? x = some (instObj C dx)) (hd : s.heap.get? dx = some (dictOf es n)) (hL : dx ≠ L)
    (hl : getL name es = some none) (hz : (putL name (PyData.keyHash w.params name) (.str name (s.toks + 1)) v es).length ≤ 1000)
    (hQ : ∀ h' n', h'.Ns L m → (∀ b o, b ≠ L → b ≠ dx → s.heap.get? b = some o → h'.get? b = some o) → h'.get? dx = some (dictOf (putL name (PyData.keyHash w.params name) (.str name (s.toks + 1)) v es) n') → Q () { s with heap := h', toks := s.toks + 2 }) :
    wpAny (model prog w) A (setAttr (.ref x) name v) Q E s := by
  let h₀ : Heap := { s.heap with objs := #[] }
  have e0 : ∀ b, h₀.get? b = none := fun b => by
    cases q : h₀.get? b with
    | none => rfl
    | some o => exact absurd (Heap.lt_size q) (Nat.not_lt_zero _)
  let post : List (Addr × Obj) := (List.range s.heap.objs.size).filterMap fun (b : Nat) => if b = L ∨ b = dx then none else (s.heap.get? b).map (b, ·)
  have pm : ∀ p, p ∈ post ↔ (p.1 ≠ L ∧ p.1 ≠ dx ∧ s.heap.get? p.1 = some p.2) := by
    intro p
    simp only [post, List.mem_filterMap, List.mem_range]
    constructor
    · rintro ⟨b, hb, e⟩
      split at e
      · cases e
      · rename_i hne
        obtain ⟨o, ho, rfl⟩ := Option.map_eq_some_iff.mp e
        exact ⟨fun q => hne (.inl q), fun q => hne (.inr q), ho⟩
    · rintro ⟨h1, h2, h3⟩
      refine ⟨p.1, Heap.lt_size h3, ?_⟩
      rw [if_neg (by rintro (q | q); exact h1 q; exact h2 q), h3]; rfl
  have F : Fr h₀ L s.heap m := ⟨hn, (fun b o e => by rw [e0] at e; cases e), Nat.zero_le _⟩
  have N : News h₀ L s.heap ([] ++ (dx, dictOf es n) :: post) := fun p hp => by
    rcases List.mem_cons.mp hp with rfl | hp
    · exact ⟨hd, hL, e0 _⟩
    · obtain ⟨h1, h2, h3⟩ := (pm p).mp hp
      exact ⟨h3, h1, e0 _⟩
  have I : InstAt s.heap x (instObj C dx) C (some (dictOf es n)) := ⟨hx, rfl, rfl, hd⟩
  refine set_plain KX I a.set ?_
  refine osa_dict (s := { s with toks := s.toks + 1 }) F N KX I rfl a.only a.take a.has (by rw [lookIn_dict, hl]; rfl) (by intro p hp; cases hp) (fun p hp => ((pm p).mp hp).2.1) (by rw [putName_dict]) rfl hz fun h' F' N' => ?_
  refine hQ h' _ F'.ns (fun b o h1 h2 h3 => ?_) (N' _ (List.mem_append_right _ (List.mem_cons_self ..))).1
  exact (N' (b, o) (List.mem_append_right _ (List.mem_cons_of_mem _ ((pm (b, o)).mpr ⟨h1, h2, h3⟩)))).1
end
end
end Mine
end
section
open PySem PySem.W PySem.Calls PyProof.Rows
set_option Elab.async false
set_option maxRecDepth 100000
namespace Mine
noncomputable section

section
variable {H base g : View} {L : Addr} {names : Names} {σ : St} {h h' : Heap} {m : Str → Option Value} {ad : Nat → Addr}
noncomputable def Slot.isSelf : Slot → Bool
  | .self _ _ _ _ => true
  | _ => false
theorem FCore.setS (X : FCore H L names base σ g h m ad) {i : Nat} {a0 C : Addr} {ns ns' : List Str} {xs xs' : List PV} (hi : σ[i]? = some (.self a0 C ns xs)) (sole : ∀ j sl, j ≠ i → σ[j]? = some sl → sl.isSelf = false)
    {dx : Addr} {es es' : List DictEntry} {n n' : Nat} (hx : h.get? (ad i) = some (instObj C dx)) (hdx : h.get? dx = some (dictOf es n)) (hLd : dx ≠ L) (bd : base dx = none) (gd : g dx = none) (hn : h'.Ns L m) (hk : ∀ b o, b ≠ L → b ≠ dx → h.get? b = some o → h'.get? b = some o) (hd : h'.get? dx = some (dictOf es' n'))
    (hks : es'.map (fun e => keyName e.key) = ns'.map some) (r : Rds g xs' (es'.map DictEntry.val)) : FCore H L names base (σ.set i (.self a0 C ns' xs')) g h' m ad := by
  have hlt : i < σ.length := (List.getElem?_eq_some_iff.mp hi).1
  have hni : i < names.length := by rw [← X.len]; exact hlt
  obtain ⟨x, k, hni'⟩ : ∃ x k, names[i]? = some (x, k) := ⟨_, _, List.getElem?_eq_getElem hni⟩
  obtain ⟨hk0, hm0, bi, gi, dx0, es0, n0, ho0, hdL0, hb0, hg0, hd0, hks0, r0, ea⟩ := X.slot i x k _ hni' hi
  have edx : dx0 = dx := by
    rw [hx] at ho0
    have := congrArg (fun o : Option Obj => o.bind Obj.dict) ho0
    simpa using this.symm
  subst edx
  have kp : ∀ b o, base b = some o ∨ g b = some o → h.get? b = some o → h'.get? b = some o := fun b o e q => hk b o (by rintro rfl; rcases e with e | e; rw [X.baseL] at e; cases e; rw [X.gL] at e; cases e) (by rintro rfl; rcases e with e | e; rw [bd] at e; cases e; rw [gd] at e; cases e) q
  have cellk : ∀ c o v, h.get? c = some o → o.data = .cell v → h'.get? c = some o := fun c o v e q => hk c o (X.ne_L_cell e q) (by rintro rfl; rw [hdx] at e; cases e; cases q) e
  refine ⟨hn, X.home, X.baseL, X.gL, fun b o e => kp b o (.inl e) (X.subB _ _ e), fun b o e => kp b o (.inr e) (X.subG _ _ e), by rw [List.length_set]; exact X.len, ?_, ?_, X.fars, ?_⟩
  · intro j y kk sl' hj hsl
    by_cases hji : j = i
    · subst hji
      rw [hni'] at hj; cases hj
      rw [List.getElem?_set_self hlt] at hsl
      cases hsl
      refine ⟨hk0, hm0, bi, gi, dx0, es', n', hk _ _ (X.ne_L_inst hx) (by rintro q; rw [q, hdx] at hx; cases hx) hx, hLd, bd, gd, hd, hks, r, ea⟩
    · rw [List.getElem?_set_ne (Ne.symm hji)] at hsl
      have Y := X.slot j y kk sl' hj hsl
      cases sl' with
      | empty => trivial
      | val d =>
        obtain ⟨u, hu, r⟩ := Y
        refine ⟨u, ?_, r⟩
        cases kk with
        | loc => exact hu
        | own c => obtain ⟨o, ho, hdd⟩ := hu; exact ⟨o, cellk _ _ _ ho hdd, hdd⟩
        | far c => obtain ⟨o, ho, hdd⟩ := hu; exact ⟨o, cellk _ _ _ ho hdd, hdd⟩
      | own zs =>
        obtain ⟨hk1, hm, hb, hg, ws, n', ho, r⟩ := Y
        exact ⟨hk1, hm, hb, hg, ws, n', hk _ _ (X.ne_L_list ho) (by rintro q; rw [q, hdx] at ho; exact ne_list_dict ho.symm) ho, r⟩
      | self a1 C1 ns1 xs1 => exact absurd (sole j _ hji hsl) (by simp [Slot.isSelf])
  · intro y c' hm
    obtain ⟨hb, hg, o, u, ho, hdd⟩ := X.cells y c' hm
    exact ⟨hb, hg, o, u, cellk _ _ _ ho hdd, hdd⟩
  · intro j j' s1 s2 h1 h2 o1 o2 e
    have q : ∀ {l : Nat} {s : Slot}, (σ.set i (.self a0 C ns' xs'))[l]? = some s → s.isOwn = true → ∃ s', σ[l]? = some s' ∧ s'.isOwn = true := by
      intro l s hl ho
      by_cases hli : l = i
      · rw [hli]; exact ⟨_, hi, rfl⟩
      · rw [List.getElem?_set_ne (Ne.symm hli)] at hl; exact ⟨s, hl, ho⟩
    obtain ⟨s1', h1', o1'⟩ := q h1 o1
    obtain ⟨s2', h2', o2'⟩ := q h2 o2
    exact X.apart j j' s1' s2' h1' h2' o1' o2' e
end

section
variable {prog : Program} {w : World} {H : View} {k : Nat} {env : Env} {names : Names} {K : Frag} {C : Addr}

noncomputable def setSelf (i : Nat) (C : Addr) (name : Str) (d : PV) (σ : St) : Option St := match σ[i]? with
  | some (.self a0 C' ns xs) => if C' = C ∧ name ∉ ns ∧ ns.length < 100 ∧ ((σ.set i .empty).all fun sl => !sl.isSelf) = true then some (σ.set i (.self a0 C' (ns ++ [name]) (xs ++ [d]))) else none
  | _ => none
theorem S_setattr {x name : Str} {p pos' pos : Pos} {e : Expr} {sk : SK} {f : St → Option PV} (kh : KH K H) (a : SetK K C name) (ok : EnvOk env names) (i : Nat) (hi : names[i]? = some (x, sk)) (he : EOk prog w H k env names e f)
    (hs : swapsWith e (some (.Attribute (.Name x p) name pos')) pos.line env = pure false := by rfl) :
    SOk prog w H k env names (.Assign [.Attribute (.Name x p) name pos'] e pos) (fun σ => (f σ).bind fun d => (setSelf i C name d σ).map .next) := by
  refine ⟨?_⟩
  intro A s base g σ o Q R F e' hQ
  obtain ⟨d, ed, e2⟩ := Option.bind_eq_some_iff.mp e'
  obtain ⟨σ', eσ, rfl⟩ := Option.map_eq_some_iff.mp e2
  unfold setSelf at eσ
  split at eσ
  · rename_i a0 C' ns xs hself
    split at eσ
    · rename_i hc
      obtain ⟨rfl, hnew, hlen, hall⟩ := hc
      cases eσ
      obtain ⟨m, ad, X⟩ := F
      refine plainObj_wpAny_Assign_Attribute (he.out A s base g σ d _ R ⟨m, ad, X⟩ ed fun v h1 t1 g1 T1 r1 => ?_) hs
      have X1 := X.step T1
      obtain ⟨rfl, hm, ba, ga, dx, es, n, ho, hdL, hb', hg', hd, hk, r, _⟩ := X1.slot i x sk _ hi hself
      refine ld_name ok (List.mem_of_getElem? hi) X1.ns (show Holds h1 m x (.ref (ad i)) .loc from hm) ?_
      have hput := fun hsh key => putL_new (name := name) (hsh := hsh) (key := key) (v := v) es ns hk hnew
      have hesl : es.length = ns.length := by have := congrArg List.length hk; simpa using this
      refine set_attr (s := { s with heap := h1, toks := t1 }) (kh.in_ (X1.home.trans X1.subG)) a X1.ns ho hd hdL (getL_none es ns hk hnew) (by rw [hput]; simp; omega) fun h2 n2 hn2 hk2 hd2 => ?_
      rw [hput] at hd2
      have sole : ∀ j sl, j ≠ i → σ[j]? = some sl → sl.isSelf = false := fun j sl hj hsl => by
        have := List.all_eq_true.mp hall sl (List.mem_of_getElem? (by rw [List.getElem?_set_ne (Ne.symm hj)]; exact hsl))
        simpa using this
      exact hQ .next h2 _ g1 T1.sub (T1.base X.subB) ⟨rfl, m, ad, X1.setS hself sole ho hd hdL hb' hg' hn2 hk2 hd2 (by rw [List.map_append, List.map_append, hk]; rfl) (by rw [List.map_append]; exact r.append (Rds.cons r1 Rds.nil))⟩
    · cases eσ
  · cases eσ

theorem S_swap2 {x y : Str} {sx sy : SK} {p q tp pos vp : Pos} {kk vk : Nat} {es : List Expr} {f : St → Option PV} (ok : EnvOk env names) (i j : Nat) (hi : names[i]? = some (x, sx)) (hj : names[j]? = some (y, sy)) (fi : ∀ c, sx ≠ .far c) (fj : ∀ c, sy ≠ .far c)
    (he : EOk prog w H k env names (.Tuple es vk vp) f) (hs : swapsWithSole [.Tuple [.Name x p, .Name y q] kk tp] (.Tuple es vk vp) pos.line env = pure false := by rfl)
    (hw : swappedStores [.Tuple [.Name x p, .Name y q] kk tp] (.Tuple es vk vp) env = pure (some [x, y]) := by rfl) :
    SOk prog w H k env names (.Assign [.Tuple [.Name x p, .Name y q] kk tp] (.Tuple es vk vp) pos) (fun σ => match f σ with
      | some (.tup [a, b]) => some (.next ((σ.set j (.val b)).set i (.val a)))
      | _ => none) := by
  refine ⟨?_⟩
  intro A s base g σ o Q R F e' hQ
  dsimp only at e'
  split at e'
  · rename_i a b ef
    cases e'
    refine Assign_Tuple_swapped (he.out A s base g σ _ _ R F ef fun v h1 t1 g1 T1 r1 => ?_) hs hw
    obtain ⟨t, vs, n, rfl, gt, rs⟩ := rd_tup.mp r1
    rw [Rds] at rs
    obtain ⟨va, vs', rfl, ra, rs⟩ := rs
    rw [Rds] at rs
    obtain ⟨vb, vs'', rfl, rb, rs⟩ := rs
    rw [Rds] at rs; subst rs
    have hT : IsTup ({ s with heap := h1, toks := t1 } : Shared).heap t #[va, vb] := ⟨_, T1.into _ _ gt, rfl, n, rfl⟩
    show wpAny _ _ (unpackItems (.ref t) (#[va, vb] : Array Value).size none) _ _ _
    refine unpackItems_tuple R.hand hT fun h2 x2 => ?_
    have F2 := (F.step T1).step (Step.keep T1.into (Ext.of_new x2))
    show wpAny _ _ (do holding [va] (bindName env y vb); assignInOrder [bindName env x] [va]) _ _ _
    refine wpAny_bind (wpAny_holding (wpAny_bindName (store_val (s := { s with heap := h2, toks := t1 }) ok hj fj F2 rb fun h3 t3 F3 => ?_)))
    show wpAny _ _ (do holding [] (bindName env x va); assignInOrder [] []) _ _ _
    refine wpAny_bind (wpAny_holding (wpAny_bindName (store_val (s := { s with heap := h3, toks := t3 }) ok hi fi F3 ra fun h4 t4 F4 => ?_)))
    exact wpAny_pure (hQ .next h4 t4 g1 T1.sub (T1.base F.subB) ⟨rfl, F4⟩)
  · cases e'
end
end
end Mine
end
section
open PySem PySem.W PySem.Calls PyProof.Rows
set_option Elab.async false
set_option maxRecDepth 100000
namespace Mine
noncomputable section

theorem depth_tc (A : Around) (C : Addr) (vals : List Value) : (A.under (.builtin "type.__call__" ⟨.ref C :: vals, []⟩)).depth = A.depth + 1 := rfl
theorem units_tc (A : Around) (C : Addr) (vals : List Value) : (A.under (.builtin "type.__call__" ⟨.ref C :: vals, []⟩)).units ≤ A.units + 1 := by
  exact Nat.le_refl (A.units + 1)
theorem Room.tc {k : Nat} {A : Around} (r : Room (k + 1) A) (C : Addr) (vals : List Value) : Room k (A.under (.builtin "type.__call__" ⟨.ref C :: vals, []⟩)) := ⟨r.hand, by rw [depth_tc]; have := r.depth; omega, by have := units_tc A C vals; have := r.units; omega⟩
section
variable {prog : Program} {w : World} {H : View} {k : Nat} {K : Frag} {C : Addr}

theorem put_ne {g : View} {a b : Addr} {o : Obj} (h : b ≠ a) : put g a o b = g b := if_neg h

theorem C_class {fI : Addr} {fd : FuncData} {body : List Stmt} {p0 p1 : Str} {N : Nat} {names : Addr → Names} {f : St → Option Out} {F : List PV → Option PV} (kh : KH K H) (hm : makesIn K C = true) (hi : findIn K (.ref C) "__init__" = some (some (.ref fI))) (hfn : isFn K (.ref fI) = true)
    (D : DefOk H fI fd body [p0, p1] N names) (hbind : ∀ vs : List Value, vs.length = 2 → bindArgs fd ⟨vs, []⟩ = pure ([p0, p1].zip vs)) (h0 : ∀ L, ∃ k0 k1 rest, names L = (p0, SK.loc) :: (p1, k1) :: rest ∧ k0 = 0) (hN : 2 ≤ N)
    (hb : ∀ L, XOk prog w H k (callEnvC fd L fI) (names L) body f)
    (hF : ∀ ds d, F ds = some d → ∃ d0 ns xs, ds = [d0] ∧ d = .inst C ns xs ∧ ∀ a0, ∃ σ', f (.self a0 C [] [] :: .val d0 :: List.replicate (N - 2) .empty) = some (.next σ') ∧ σ'[0]? = some (.self a0 C ns xs)) :
    COk prog w H (k + 2) (.ref C) F := by
  refine ⟨?_⟩
  intro A s g vs ds d Q R hH hg r e hQ
  obtain ⟨d0, ns, xs, rfl, rfl, hrun⟩ := hF ds d e
  rw [Rds] at r
  obtain ⟨v, vs', rfl, r1, r2⟩ := r
  rw [Rds] at r2; subst r2
  obtain ⟨o, ho, hd⟩ := D.at_
  have hS : Sub H s.heap.get? := hH.trans hg
  have KX := kh.in_ hS
  refine wpAny_call ?_
  obtain ⟨hp, gg, dd, tk, os⟩ := s
  dsimp only at hg hS KX hQ
  refine make_core (makes_of KX hm) (looks_findIn KX hi) (fun self => bind_fn KX self (beq_iff_eq.mp hfn)) (.inl rfl) ?_
  have RT : Room (k + 1) (A.under (.builtin "type.__call__" ⟨.ref C :: [v], []⟩)) := Room.tc R _ _
  generalize (A.under (.builtin "type.__call__" ⟨.ref C :: [v], []⟩)) = A' at *
  generalize hx : hp.objs.size + 1 = x
  generalize hdx : hp.objs.size = dx
  generalize hh2 : (hp.push emptyDict).push (instObj C dx) = h2
  have sz1 : (hp.push emptyDict).objs.size = x := by rw [Heap.size_push, hx]
  have X2 : Ext hp h2 := by rw [← hh2]; exact (Ext.push _ _).trans (Ext.push _ _)
  have gx : h2.get? x = some (instObj C dx) := by rw [← hh2, ← sz1]; exact Heap.get?_push_size _ rfl
  have gdx : h2.get? dx = some (dictOf [] 0) := by rw [← hh2, ← hdx]; exact Heap.get?_push_of_some _ (Heap.get?_push_size _ rfl)
  have nx : hp.get? x = none := by
    cases q : hp.get? x with
    | none => rfl
    | some o => exact absurd (Heap.lt_size q) (by rw [← hx]; exact Nat.not_lt.mpr (Nat.le_succ _))
  have ndx : hp.get? dx = none := by rw [← hdx]; exact fresh_get
  have gn : ∀ b, hp.get? b = none → g b = none := fun b q => by
    cases q' : g b with
    | none => rfl
    | some o => have := hg _ _ q'; rw [q] at this; cases this
  have hS2 : Sub H h2.get? := fun b o q => X2 _ _ (hS b o q)
  have hroom : A'.depth < recursionLimit := by have := RT.depth; omega
  refine codeAny_call_cells (s := ⟨h2, gg, dd, tk, os⟩) hroom (hS2 _ _ ho) hd (D.lim _ hS2) (D.code _ hS2) D.body (hbind [.ref x, v] rfl) D.clo (fun y hy => ?_) (fun s₁ y => ?_) D.co D.gen D.kind
  · have : y.1 ∈ [p0, p1] := by
      obtain ⟨y1, y2⟩ := y
      exact (List.of_mem_zip hy).1
    exact D.par _ _ this
  · obtain ⟨σ', e1, e2⟩ := hrun x
    have R1 : Room k (A'.deeper (callEnvC fd h2.objs.size fI)) := RT.deeper _
    have ok := D.ok h2.objs.size
    have hne : p0 ≠ p1 := by have := D.nodup; simp at this; exact this
    have nd : (([p0, p1].zip [Value.ref x, v]).map (·.1)).Nodup := by simpa using hne
    obtain ⟨_, k1, rest, hnames, _⟩ := h0 h2.objs.size
    have Lsz : (callEnvC fd h2.objs.size fI).locals = h2.objs.size := rfl
    have xlt : x < h2.objs.size := Heap.lt_size gx
    have dxlt : dx < h2.objs.size := Heap.lt_size gdx
    have F0 : FRel H (callEnvC fd h2.objs.size fI).locals (names h2.objs.size) hp.get? (.self x C [] [] :: .val d0 :: List.replicate (N - 2) .empty) g s₁.heap := by
      have b0 : hp.get? h2.objs.size = none := by
        cases q : hp.get? h2.objs.size with
        | none => rfl
        | some o => exact absurd (Heap.lt_size (X2 _ _ q)) (Nat.lt_irrefl _)
      refine ⟨_, fun _ => x, y.toInCall.ns, hH, b0, gn _ b0, fun b o q => y.toInCall.keep b o (X2 _ _ q), fun b o q => y.toInCall.keep b o (X2 _ _ (hg b o q)), ?_, ?_, ?_, ?_, ?_⟩
      · rw [D.len]; simp; omega
      · intro i z kk sl hn hs
        match i, hn, hs with
        | 0, hn, hs =>
          rw [hnames] at hn
          simp at hn hs
          obtain ⟨rfl, rfl⟩ := hn
          subst hs
          have l0 : (callEnvC fd h2.objs.size fI).kindOf p0 = some .local := ok.loc p0 (by rw [hnames]; exact List.mem_cons_self ..)
          refine ⟨rfl, bindL_get _ _ _ _ nd (by simp) l0, nx, gn _ nx, dx, [], 0, y.toInCall.keep _ _ gx, ?_, ndx, gn _ ndx, y.toInCall.keep _ _ gdx, rfl, Rds.nil, rfl⟩
          rintro rfl; exact absurd dxlt (Nat.lt_irrefl _)
        | 1, hn, hs =>
          rw [hnames] at hn
          simp at hn hs
          obtain ⟨rfl, rfl⟩ := hn
          subst hs
          have hmem : (p1, k1) ∈ names h2.objs.size := by rw [hnames]; simp
          refine ⟨v, ?_, r1⟩
          cases k1 with
          | loc => exact bindL_get _ _ _ _ nd (by simp) (ok.loc p1 hmem)
          | own c =>
            obtain ⟨h1, h2'⟩ := ok.own p1 c hmem
            have hc := y.cell p1 c h2'
            rw [bindC_get _ _ _ _ nd (show (p1, v) ∈ _ by simp) (by rw [h1]; decide)] at hc
            exact hc
          | far c => exact absurd hmem (D.nofar _ _ _)
        | i + 2, hn, hs =>
          simp only [List.getElem?_cons_succ, List.getElem?_replicate] at hs
          split at hs
          · cases hs; trivial
          · cases hs
      · intro z c hm'
        obtain ⟨_, h2'⟩ := ok.own z c hm'
        have hc := y.cell z c h2'
        have hab := y.above z c (mem_of_lookup h2')
        have hn : hp.get? c = none := by
          cases q : hp.get? c with
          | none => rfl
          | some o => exact absurd (Heap.lt_size (X2 _ _ q)) (Nat.not_lt.mpr (Nat.le_of_lt hab))
        obtain ⟨o, ho, hd⟩ := hc
        exact ⟨hn, gn _ hn, o, _, ho, hd⟩
      · intro z c hm'
        exact absurd hm' (D.nofar _ _ _)
      · intro i j sl sl' h1 h2' o1 o2 _
        have q : ∀ (i : Nat) (sl : Slot), (Slot.self x C [] [] :: Slot.val d0 :: List.replicate (N - 2) Slot.empty)[i]? = some sl → sl.isOwn = true → i = 0 := by
          intro i sl h o
          match i, h with
          | 0, _ => rfl
          | 1, h => simp at h; subst h; cases o
          | i + 2, h =>
            simp only [List.getElem?_cons_succ, List.getElem?_replicate] at h
            split at h
            · cases h; cases o
            · cases h
        rw [q i sl h1 o1, q j sl' h2' o2]
    obtain ⟨h1, t1, rfl⟩ := y.toInCall.same
    refine wpAny_mono ((hb _).out (A'.deeper (callEnvC fd h2.objs.size fI)) _ _ g _ _ (fun fl s' => InitBack x (fun r s' => match r with | .ok (.ret v) => Q v s' | .ok _ => False | .error e => NoE e s') (.ok (.ret (match fl with | .ret v => v | _ => .none))) s') R1 F0 e1 fun fl h' tk' g' S' B' O' => ?_) (fun _ _ x => x) fun _ _ x => x.elim
    obtain ⟨rfl, m', ad', X'⟩ := O'
    refine ⟨rfl, ?_⟩
    have h00 : (names h2.objs.size)[0]? = some (p0, SK.loc) := by rw [hnames]; rfl
    obtain ⟨_, hm', bx, gx', dx', es, n, ox, hdL, bd, gd', od, hk, rs, ex⟩ := X'.slot 0 p0 .loc _ h00 e2
    rw [ex] at hm' bx gx' ox
    have hne2 : dx' ≠ x := by rintro rfl; rw [od] at ox; cases ox
    have P1 : Sub g' (put g' x (instObj C dx')) := Sub.put gx'
    have gd2 : put g' x (instObj C dx') dx' = none := (put_ne hne2).trans gd'
    have P2 : Sub (put g' x (instObj C dx')) (put (put g' x (instObj C dx')) dx' (dictOf es n)) := Sub.put gd2
    refine hQ (.ref x) h' tk' (put (put g' x (instObj C dx')) dx' (dictOf es n)) ⟨X'.subB, S'.trans (P1.trans P2), fun b o q => ?_, fun b o q nn => ?_⟩ (rd_inst.mpr ⟨x, dx', es, n, rfl, (put_ne (Ne.symm hne2)).trans (put_self ..), put_self .., hk, Rds.mono (P1.trans P2) _ _ rs⟩)
    · by_cases hb : b = dx'
      · subst hb; rw [put_self] at q; cases q; exact od
      · rw [put_ne hb] at q
        by_cases hb2 : b = x
        · subst hb2; rw [put_self] at q; cases q; exact ox
        · rw [put_ne hb2] at q; exact X'.subG _ _ q
    · have hb : b ≠ dx' := by rintro rfl; rw [bd] at q; cases q
      have hb2 : b ≠ x := by rintro rfl; rw [bx] at q; cases q
      rw [put_ne hb, put_ne hb2]
      exact B' b o q nn
end
end
end Mine
end
section
open PySem PySem.Sre
set_option Elab.async false
set_option maxRecDepth 100000
namespace Mine

noncomputable def code1 : Array Nat := #[14, 4, 0, 1, 1, 6, 1, 16, 46, 1]
noncomputable def code2 : Array Nat := #[14, 9, 4, 1, 2, 16, 10, 16, 13, 0, 7, 7, 16, 13, 16, 10, 15, 18, 5, 16, 10, 15, 13, 11, 16, 13, 5, 5, 0, 16, 10, 1, 15, 2, 0, 1]

noncomputable def mk (code text : Array Nat) (start pc pos handed : Nat) (o : Bool) (fr : List Sre.Frame) (wt : Nat) (ans : Option Bool) (sn : Seen) : M :=
  { code, text, lim := text.size, start, lastStart := text.size, pc, pos, handed, outermost := o, marks := #[], frames := fr, weight := wt, answer := ans, seen := sn }

noncomputable def iter : Nat → M → M
  | 0, m => m
  | n + 1, m => iter n m.step
theorem step_done {m : M} (h : m.outcome.isSome = true) : m.step = m := by unfold M.step; rw [if_pos h]
theorem iter_done {m : M} (h : m.outcome.isSome = true) : ∀ n, iter n m = m
  | 0 => rfl
  | n + 1 => by rw [iter, step_done h]; exact iter_done h n
theorem iter_add (a b : Nat) : ∀ m, iter (a + b) m = iter b (iter a m) := by
  induction a with
  | zero => intro m; rw [Nat.zero_add]; rfl
  | succ a ih => intro m; rw [Nat.succ_add, iter, iter, ih]
theorem runFor_iter : ∀ (n : Nat) (m : M), m.runFor n = iter n m
  | 0, m => rfl
  | n + 1, m => by
    rw [M.runFor]
    split
    · rename_i h; rw [iter, step_done h, iter_done h]
    · rw [iter, runFor_iter n]

noncomputable abbrev fr1 (s : Nat) (o : Bool) : List Sre.Frame := [{ wait := .nextStart, pc := 5, pos := s, outermost := o }]
section one
variable {text : Array Nat} {s p hd wt : Nat} {o : Bool} {sn : Seen} {fr : List Sre.Frame}
theorem a1 : (mk code1 text s 5 p hd o fr wt none sn).step = if (p == 0 || text.getD (p - 1) 0 == 10) = true then mk code1 text s 7 p hd o fr wt none ((sn.add 6).add 44) else mk code1 text s 5 p hd o fr wt (some false) ((sn.add 6).add 44) := by rfl
noncomputable def litStep (m : M) (r : Except String (Bool × Seen)) (w : Nat) : M := match r with
  | .error why => m.stick why
  | .ok (false, seen) => { m with seen }.say false
  | .ok (true, seen) => { m with seen, pc := m.pc + w, pos := m.pos + 1 }
theorem a2 : (mk code1 text s 7 p hd o fr wt none sn).step = if p ≥ text.size then mk code1 text s 7 p hd o fr wt (some false) (sn.add 16) else
   litStep (mk code1 text s 7 p hd o fr wt none (sn.add 16)) (Except.ok (text.getD p 0 == 46, sn.add 16)) 2 := by rfl
theorem a2_out (h : p ≥ text.size) : (mk code1 text s 7 p hd o fr wt none sn).step = mk code1 text s 7 p hd o fr wt (some false) (sn.add 16) := by
  rw [a2, if_pos h]
theorem a2_no (h : ¬ p ≥ text.size) (hb : (text.getD p 0 == 46) = false) : (mk code1 text s 7 p hd o fr wt none sn).step = mk code1 text s 7 p hd o fr wt (some false) (sn.add 16) := by
  rw [a2, if_neg h, hb]; rfl
theorem a2_yes (h : ¬ p ≥ text.size) (hb : (text.getD p 0 == 46) = true) : (mk code1 text s 7 p hd o fr wt none sn).step = mk code1 text s 9 (p + 1) hd o fr wt none (sn.add 16) := by
  rw [a2, if_neg h, hb]; rfl
theorem a3 : (mk code1 text s 9 p hd true fr wt none sn).step = mk code1 text s 9 p p true fr wt (some true) (sn.add 1) := by rfl
theorem a3' : (mk code1 text s 9 p hd false fr wt none sn).step = mk code1 text s 9 p p false fr wt (some true) (sn.add 1) := by rfl
theorem a1_yes (h : (p == 0 || text.getD (p - 1) 0 == 10) = true) : (mk code1 text s 5 p hd o fr wt none sn).step = mk code1 text s 7 p hd o fr wt none ((sn.add 6).add 44) := by rw [a1, if_pos h]
theorem a1_no (h : (p == 0 || text.getD (p - 1) 0 == 10) = false) : (mk code1 text s 5 p hd o fr wt none sn).step = mk code1 text s 5 p hd o fr wt (some false) ((sn.add 6).add 44) := by rw [a1, h]; rfl
noncomputable def fin (m : M) (y : Bool) : M := { m with outcome := some (if y then .matched else .failed) }
theorem b_yes {pc : Nat} : (mk code1 text s pc p hd o (fr1 s o) 1 (some true) sn).step = mk code1 text s 5 s hd o [] 0 (some true) sn := by rfl
theorem b_end {code : Array Nat} {pc : Nat} {y : Bool} : (mk code text s pc p hd o [] wt (some y) sn).step = fin (mk code text s pc p hd o [] wt (some y) sn) y := by rfl
theorem b_more {pc : Nat} (h : s < text.size) : (mk code1 text s pc p hd o (fr1 s o) 1 (some false) sn).step = mk code1 text (s + 1) 5 (s + 1) (s + 1) false (fr1 (s + 1) false) 1 none sn := by
  show (if s < text.size then _ else _) = _
  rw [if_pos h]; rfl
theorem b_last {pc : Nat} (h : ¬ s < text.size) : (mk code1 text s pc p hd o (fr1 s o) 1 (some false) sn).step = mk code1 text s 5 s hd o [] 0 (some false) sn := by
  show (if s < text.size then _ else _) = _
  rw [if_neg h]; rfl
end one

noncomputable def hit1 (text : Array Nat) (s : Nat) : Bool := (s == 0 || text.getD (s - 1) 0 == 10) && (decide (s < text.size) && text.getD s 0 == 46)
noncomputable def find1 (text : Array Nat) : Nat → Nat → Option Nat
  | 0, _ => none
  | n + 1, s => if hit1 text s then some s else find1 text n (s + 1)
noncomputable def Ends (N : Nat) (m : M) (r : Option (Nat × Nat)) : Prop := match r with
  | some (a, b) => (iter N m).outcome = some .matched ∧ (iter N m).start = a ∧ (iter N m).handed = b
  | none => (iter N m).outcome = some .failed
theorem Ends.steps {a b : Nat} {m m' : M} {r : Option (Nat × Nat)} (h : iter a m = m') (e : Ends b m' r) : Ends (a + b) m r := by
  cases r with
  | none => unfold Ends at e ⊢; rw [iter_add, h]; exact e
  | some x => unfold Ends at e ⊢; rw [iter_add, h]; exact e
theorem search1 (text : Array Nat) : ∀ (n s : Nat) (o : Bool) (sn : Seen), s + n = text.size + 1 → 0 < n → ∃ N, N ≤ 3 * n + 5 ∧ Ends N (mk code1 text s 5 s s o (fr1 s o) 1 none sn) ((find1 text n s).map fun q => (q, q + 1)) := by
  intro n
  induction n with
  | zero => intro s o sn _ h; omega
  | succ n ih =>
    intro s o sn hs _
    have no : ∀ (j pc p hd : Nat) (sn' : Seen), j ≤ 2 → iter j (mk code1 text s 5 s s o (fr1 s o) 1 none sn) = mk code1 text s pc p hd o (fr1 s o) 1 (some false) sn' → hit1 text s = false → ∃ N, N ≤ 3 * (n + 1) + 5 ∧ Ends N (mk code1 text s 5 s s o (fr1 s o) 1 none sn) ((find1 text (n + 1) s).map fun q => (q, q + 1)) := by
      intro j pc p hd sn' hj h1 hf
      have ef : find1 text (n + 1) s = find1 text n (s + 1) := by rw [find1, hf]; rfl
      rw [ef]
      by_cases hlt : s < text.size
      · obtain ⟨N, hN, E⟩ := ih (s + 1) false sn' (by omega) (by omega)
        exact ⟨j + (1 + N), by omega, Ends.steps h1 (Ends.steps (show iter 1 _ = _ from b_more hlt) E)⟩
      · have hn : n = 0 := by omega
        subst hn
        refine ⟨j + (1 + 1), by omega, Ends.steps h1 (Ends.steps (show iter 1 _ = _ from b_last hlt) ?_)⟩
        show (M.step _).outcome = _
        rw [b_end]; rfl
    cases h1 : (s == 0 || text.getD (s - 1) 0 == 10) with
    | false => exact no 1 5 s s ((sn.add 6).add 44) (by omega) (by simp only [iter]; rw [a1_no h1]) (by unfold hit1; rw [h1]; rfl)
    | true =>
      by_cases hlt : s ≥ text.size
      · refine no 2 7 s s ((((sn.add 6).add 44)).add 16) (by omega) ?_ (by unfold hit1; rw [h1, decide_eq_false (by omega)]; rfl)
        show (M.step (M.step _)) = _
        rw [a1_yes h1, a2_out hlt]
      · cases h2 : (text.getD s 0 == 46) with
        | false =>
          refine no 2 7 s s ((((sn.add 6).add 44)).add 16) (by omega) ?_ (by unfold hit1; rw [h1, h2]; simp)
          show (M.step (M.step _)) = _
          rw [a1_yes h1, a2_no hlt h2]
        | true =>
          have hh : hit1 text s = true := by unfold hit1; rw [h1, h2, decide_eq_true (by omega)]; rfl
          have ef : find1 text (n + 1) s = some s := by rw [find1, hh]; rfl
          rw [ef]
          have e5 : iter 5 (mk code1 text s 5 s s o (fr1 s o) 1 none sn) = fin (mk code1 text s 5 s (s + 1) o [] 0 (some true) (((((sn.add 6).add 44)).add 16).add 1)) true := by
            show M.step (M.step (M.step (M.step (M.step _)))) = _
            rw [a1_yes h1, a2_yes hlt h2]
            cases o
            · rw [a3', b_yes, b_end]
            · rw [a3, b_yes, b_end]
          refine ⟨5, by omega, ?_⟩
          show (iter 5 _).outcome = _ ∧ _
          rw [e5]; exact ⟨rfl, rfl, rfl⟩

theorem begin1 (text : Array Nat) (pos : Nat) (h : pos ≤ text.size) : ∃ N, N ≤ 3 * (text.size + 2) + 5 ∧ Ends N (forSearch code1 text 0 pos text.size false) ((find1 text (text.size + 1 - pos) pos).map fun q => (q, q + 1)) := by
  by_cases h1 : text.size - pos < 1
  · have hp : pos = text.size := by omega
    have e : forSearch code1 text 0 pos text.size false = { code := code1, text, lim := text.size, start := pos, pc := 5, pos, handed := pos, marks := #[], mustAdvance := false, seen := ({} : Seen).add 14, answer := some false } := by
      show (if (decide (pos > text.size) || decide (text.size - pos < 1)) = true then _ else _) = _
      rw [if_pos (by rw [decide_eq_true h1, Bool.or_true])]; rfl
    have ef : find1 text (text.size + 1 - pos) pos = none := by
      have : text.size + 1 - pos = 1 := by omega
      rw [this, find1, find1]
      have : hit1 text pos = false := by unfold hit1; rw [decide_eq_false (by omega)]; simp
      rw [this]; rfl
    rw [ef]
    refine ⟨1, by omega, ?_⟩
    show (M.step _).outcome = _
    rw [e]; rfl
  · obtain ⟨N, hN, E⟩ := search1 text (text.size + 1 - pos) pos true (({} : Seen).add 14) (by omega) (by omega)
    have e : forSearch code1 text 0 pos text.size false = mk code1 text pos 5 pos pos true (fr1 pos true) 1 none (({} : Seen).add 14) := by
      show (if (decide (pos > text.size) || decide (text.size - pos < 1)) = true then _ else _) = _
      rw [if_neg (by rw [decide_eq_false h1, decide_eq_false (by omega)]; decide)]; rfl
    rw [e]
    exact ⟨N, by omega, E⟩

noncomputable abbrev fr2 (s : Nat) (o : Bool) : List Sre.Frame := [{ wait := .nextStart, pc := 10, pos := s, outermost := o }]
noncomputable abbrev alt (pc s : Nat) (o : Bool) (fr : List Sre.Frame) : List Sre.Frame := { wait := .nextBranch, pc := pc, pos := s, outermost := o, kept := { lastmark := -1, lastindex := -1, whole := false, marks := #[] } } :: fr
noncomputable abbrev lkn (s : Nat) (o : Bool) (fr : List Sre.Frame) : List Sre.Frame := { wait := .lookNot, pc := 26, pos := s, outermost := o, kept := { lastmark := -1, lastindex := -1, whole := false, marks := #[] } } :: fr
section two
variable {text : Array Nat} {s p hd wt : Nat} {o : Bool} {sn : Seen} {fr : List Sre.Frame}
theorem c10 : (mk code2 text s 10 p hd o (fr2 s o) 1 none sn).step = mk code2 text s 12 p p o (alt 11 p o (fr2 s o)) 2 none (sn.add 7) := by rfl
noncomputable def lit2 (text : Array Nat) (s p hd : Nat) (o : Bool) (fr : List Sre.Frame) (wt : Nat) (sn : Seen) (pc c : Nat) : Prop :=
  (p < text.size → (text.getD p 0 == c) = true → (mk code2 text s pc p hd o fr wt none sn).step = mk code2 text s (pc + 2) (p + 1) hd o fr wt none (sn.add 16)) ∧
  (¬ (p < text.size ∧ (text.getD p 0 == c) = true) → (mk code2 text s pc p hd o fr wt none sn).step = mk code2 text s pc p hd o fr wt (some false) (sn.add 16))
theorem lit_of {pc c : Nat} (e : (mk code2 text s pc p hd o fr wt none sn).step = if p ≥ text.size then mk code2 text s pc p hd o fr wt (some false) (sn.add 16) else
   litStep (mk code2 text s pc p hd o fr wt none (sn.add 16)) (Except.ok (text.getD p 0 == c, sn.add 16)) 2) : lit2 text s p hd o fr wt sn pc c := by
  refine ⟨fun h1 h2 => ?_, fun h => ?_⟩
  · rw [e, if_neg (by omega), h2]; rfl
  · by_cases h1 : p ≥ text.size
    · rw [e, if_pos h1]
    · have h2 : (text.getD p 0 == c) = false := by
        cases q : (text.getD p 0 == c) with
        | false => rfl
        | true => exact absurd ⟨by omega, q⟩ h
      rw [e, if_neg h1, h2]; rfl
theorem l12 : lit2 text s p hd o fr wt sn 12 13 := lit_of (by rfl)
theorem l14 : lit2 text s p hd o fr wt sn 14 10 := lit_of (by rfl)
theorem l19 : lit2 text s p hd o fr wt sn 19 10 := lit_of (by rfl)
theorem l24 : lit2 text s p hd o fr wt sn 24 13 := lit_of (by rfl)
theorem l29 : lit2 text s p hd o fr wt sn 29 10 := lit_of (by rfl)
theorem j16 : (mk code2 text s 16 p hd o fr wt none sn).step = mk code2 text s 35 p hd o fr wt none (sn.add 15) := by rfl
theorem j21 : (mk code2 text s 21 p hd o fr wt none sn).step = mk code2 text s 35 p hd o fr wt none (sn.add 15) := by rfl
theorem j32 : (mk code2 text s 32 p hd o fr wt none sn).step = mk code2 text s 35 p hd o fr wt none (sn.add 15) := by rfl
theorem s35 : (mk code2 text s 35 p hd o fr wt none sn).step = mk code2 text s 35 p p o fr wt (some true) (sn.add 1) := by cases o <;> rfl
theorem alt_yes {pc pc' q : Nat} : (mk code2 text s pc p hd o (alt pc' q o fr) 2 (some true) sn).step = mk code2 text s pc' q hd o fr 1 (some true) sn := by rfl
theorem alt_2 {pc q : Nat} : (mk code2 text s pc p hd o (alt 11 q o fr) 2 (some false) sn).step = mk code2 text s 19 q q o (alt 18 q o fr) 2 none sn := by rfl
theorem alt_3 {pc q : Nat} : (mk code2 text s pc p hd o (alt 18 q o fr) 2 (some false) sn).step = mk code2 text s 24 q q o (alt 23 q o fr) 2 none sn := by rfl
theorem n26 : (mk code2 text s 26 p hd o fr 2 none sn).step = mk code2 text s 29 p p false (lkn p o fr) 3 none (sn.add 5) := by rfl
theorem lk_no {pc q : Nat} : (mk code2 text s pc p hd false (lkn q o fr) 3 (some false) sn).step = mk code2 text s 32 q hd o fr 2 none sn := by rfl
theorem st_yes {pc : Nat} : (mk code2 text s pc p hd o (fr2 s o) 1 (some true) sn).step = mk code2 text s 10 s hd o [] 0 (some true) sn := by rfl

noncomputable def len2 (text : Array Nat) (s : Nat) : Nat := if text.getD s 0 == 13 && (decide (s + 1 < text.size) && text.getD (s + 1) 0 == 10) then 2 else 1
theorem here2 (hs : s < text.size) (hc : (text.getD s 0 == 10 || text.getD s 0 == 13) = true) : ∃ N, N ≤ 20 ∧ Ends N (mk code2 text s 10 s s o (fr2 s o) 1 none sn) (some (s, s + len2 text s)) := by
  have start : iter 1 (mk code2 text s 10 s s o (fr2 s o) 1 none sn) = mk code2 text s 12 s s o (alt 11 s o (fr2 s o)) 2 none (sn.add 7) := c10
  have finish : ∀ (pc pc' p : Nat) (sn' : Seen), Ends 3 (mk code2 text s pc p p o (alt pc' s o (fr2 s o)) 2 (some true) sn') (some (s, p)) := by
    intro pc pc' p sn'
    show (M.step (M.step (M.step _))).outcome = _ ∧ (M.step (M.step (M.step _))).start = _ ∧ (M.step (M.step (M.step _))).handed = _
    rw [alt_yes, st_yes, b_end]; exact ⟨rfl, rfl, rfl⟩
  by_cases h13 : (text.getD s 0 == 13) = true
  · have hn10 : (text.getD s 0 == 10) = false := by
      have := beq_iff_eq.mp h13
      rw [this]; rfl
    by_cases h2 : s + 1 < text.size ∧ (text.getD (s + 1) 0 == 10) = true
    · have el : len2 text s = 2 := by unfold len2; rw [h13, decide_eq_true h2.1, h2.2]; rfl
      rw [el]
      refine ⟨1 + (4 + 3), by omega, Ends.steps start (Ends.steps (m' := mk code2 text s 35 (s + 2) (s + 2) o (alt 11 s o (fr2 s o)) 2 (some true) ((((((sn.add 7).add 16).add 16).add 15)).add 1)) ?_ (finish _ _ _ _))⟩
      show M.step (M.step (M.step (M.step _))) = _
      rw [l12.1 hs h13, l14.1 h2.1 h2.2, j16, s35]
    · have el : len2 text s = 1 := by
        unfold len2
        rw [if_neg]
        intro q
        rw [Bool.and_eq_true, Bool.and_eq_true] at q
        exact h2 ⟨of_decide_eq_true q.2.1, q.2.2⟩
      rw [el]
      refine ⟨1 + (11 + 3), by omega, Ends.steps start (Ends.steps (m' := mk code2 text s 35 (s + 1) (s + 1) o (alt 23 s o (fr2 s o)) 2 (some true) ((((((((((sn.add 7).add 16).add 16)).add 16).add 16)).add 5).add 16).add 15 |>.add 1)) ?_ (finish _ _ _ _))⟩
      show M.step (M.step (M.step (M.step (M.step (M.step (M.step (M.step (M.step (M.step (M.step _)))))))))) = _
      rw [l12.1 hs h13, l14.2 h2, alt_2, l19.2 (by rw [hn10]; simp), alt_3, l24.1 hs h13, n26, l29.2 h2, lk_no, j32, s35]
  · have h10 : (text.getD s 0 == 10) = true := by
      cases q : (text.getD s 0 == 10) with
      | true => rfl
      | false => rw [q, Bool.false_or] at hc; exact absurd hc h13
    have el : len2 text s = 1 := by unfold len2; rw [if_neg (fun q => by rw [Bool.and_eq_true] at q; exact h13 q.1)]
    rw [el]
    refine ⟨1 + (5 + 3), by omega, Ends.steps start (Ends.steps (m' := mk code2 text s 35 (s + 1) (s + 1) o (alt 18 s o (fr2 s o)) 2 (some true) (((((sn.add 7).add 16).add 16).add 15).add 1)) ?_ (finish _ _ _ _))⟩
    show M.step (M.step (M.step (M.step (M.step _)))) = _
    rw [l12.2 (by rintro ⟨_, q⟩; exact h13 q), alt_2, l19.1 hs h10, j21, s35]
end two

noncomputable def isEnd (c : Nat) : Bool := c == 10 || c == 13
theorem inSet2 (c : Nat) (sn : Seen) : ∃ sn', inSet code2 c code2.size 5 true sn = .ok (isEnd c, sn') := by
  by_cases h : (c == 10) = true
  · refine ⟨sn.add 16, ?_⟩
    show (if (c == 10) = true then _ else _) = _
    rw [if_pos h]; unfold isEnd; rw [h]; rfl
  · by_cases h' : (c == 13) = true
    · refine ⟨(sn.add 16).add 16, ?_⟩
      show (if (c == 10) = true then _ else (if (c == 13) = true then _ else _)) = _
      rw [if_neg h, if_pos h']; unfold isEnd; rw [h', Bool.or_true]; rfl
    · refine ⟨((sn.add 16).add 16).add 0, ?_⟩
      show (if (c == 10) = true then _ else (if (c == 13) = true then _ else _)) = _
      rw [if_neg h, if_neg h']
      unfold isEnd
      rw [Bool.not_eq_true] at h h'
      rw [h, h']; rfl
noncomputable def find2 (text : Array Nat) : Nat → Nat → Option Nat
  | 0, _ => none
  | n + 1, s => if s ≥ text.size then none else if isEnd (text.getD s 0) then some s else find2 text n (s + 1)
theorem admitted2 (m : M) (hc : m.code = code2) (text : Array Nat) (ht : m.text = text) (hl : m.lim = text.size) : ∀ (n s : Nat) (sn : Seen), ∃ sn', M.admitted m n s sn = .ok (find2 text n s, sn')
  | 0, s, sn => ⟨sn, rfl⟩
  | n + 1, s, sn => by
    rw [M.admitted, find2, hl, hc, ht]
    by_cases h : s ≥ text.size
    · exact ⟨sn, by rw [if_pos h, if_pos h]⟩
    · rw [if_neg h, if_neg h]
      obtain ⟨sn', e⟩ := inSet2 (text.getD s 0) sn
      rw [e]
      cases isEnd (text.getD s 0) with
      | true => exact ⟨sn', rfl⟩
      | false => exact admitted2 m hc text ht hl n (s + 1) sn'
theorem find2_some {text : Array Nat} : ∀ {n s q : Nat}, find2 text n s = some q → q < text.size ∧ isEnd (text.getD q 0) = true
  | 0, _, _, h => by cases h
  | n + 1, s, q, h => by
    rw [find2] at h
    split at h
    · cases h
    · split at h
      · rename_i a b; cases h; exact ⟨by omega, b⟩
      · exact find2_some h
theorem begin2 (text : Array Nat) (pos : Nat) (h : pos ≤ text.size) : ∃ N, N ≤ 20 ∧ Ends N (forSearch code2 text 0 pos text.size false) ((find2 text (text.size + 1 - pos) pos).map fun q => (q, q + len2 text q)) := by
  by_cases h1 : text.size - pos < 1
  · have hp : pos = text.size := by omega
    have e : forSearch code2 text 0 pos text.size false = { code := code2, text, lim := text.size, start := pos, pc := 10, pos, handed := pos, marks := #[], mustAdvance := false, seen := ({} : Seen).add 14, answer := some false } := by
      show (if (decide (pos > text.size) || decide (text.size - pos < 1)) = true then _ else _) = _
      rw [if_pos (by rw [decide_eq_true h1, Bool.or_true])]; rfl
    have ef : find2 text (text.size + 1 - pos) pos = none := by
      have : text.size + 1 - pos = 1 := by omega
      rw [this, find2, if_pos (by omega)]
    rw [ef]
    refine ⟨1, by omega, ?_⟩
    show (M.step _).outcome = _
    rw [e]; rfl
  · let m0 : M := { code := code2, text, lim := text.size, start := pos, lastStart := text.size, pc := 10, pos, handed := pos, marks := #[], mustAdvance := false, seen := ({} : Seen).add 14 }
    have e : forSearch code2 text 0 pos text.size false = m0.attemptFrom pos true := by
      show (if (decide (pos > text.size) || decide (text.size - pos < 1)) = true then _ else _) = _
      rw [if_neg (by rw [decide_eq_false h1, decide_eq_false (by omega)]; decide)]; rfl
    obtain ⟨sn', ea⟩ := admitted2 m0 rfl text rfl rfl (text.size + 1 - pos) pos (({} : Seen).add 14)
    rw [e]
    unfold M.attemptFrom
    have hf : m0.hasFirstSet = true := rfl
    rw [hf]
    have ea' : m0.admitted (m0.lim + 1 - pos) pos m0.seen = .ok (find2 text (text.size + 1 - pos) pos, sn') := ea
    rw [ea']
    cases q : find2 text (text.size + 1 - pos) pos with
    | none =>
      refine ⟨1, by omega, ?_⟩
      show (M.step _).outcome = _
      rfl
    | some z =>
      obtain ⟨z1, z2⟩ := find2_some q
      obtain ⟨N, hN, E⟩ := here2 (o := true) (sn := sn') z1 z2
      exact ⟨N, hN, E⟩
end Mine
end
section
open PySem PySem.W PySem.Calls PyProof.Rows
set_option Elab.async false
set_option maxRecDepth 100000
namespace Mine
noncomputable section
namespace RF
theorem owner_pat : Manifest.owners.lookup (String.ofList ['n', 'r', 'e', 't', 't', 'a', 'P', '.', 'e', 'r'].reverse) = some Manifest.sig_re_Pattern := by kernel_rfl
theorem slot_sub   : PySem.Slot "re.Pattern" "sub" "re.Pattern.sub" :=
  .of (owner := "re.Pattern") (n := "sub") (by rw [typeLookup_type, builtinLookup_eq_fast]; kernel_rfl) (by decide +kernel) (by decide +kernel) (by decide +kernel)
    (by first | exact .inl (by decide +kernel) | exact .inr (by decide +kernel)) (by rw [isSubtype_type]; kernel_rfl)
theorem entry_sub : entryFor table "re.Pattern.sub" = some Builtin.«re.Pattern.sub» := entryFor_of_tree (by kernel_rfl)
theorem entry_loop : entryFor table "re.Pattern.sub.loop" = some Builtin.«re.Pattern.sub.loop» := entryFor_of_tree (by kernel_rfl)
theorem plain_loop : plainId "re.Pattern.sub.loop" = true := by decide +kernel
theorem type_sub : typeOf (.builtin "re.Pattern.sub") = pure (.type "method_descriptor") := by kernel_rfl
theorem plainAttrs : PlainAttrs "re.Pattern" := ⟨⟨"object.__getattribute__", by rw [typeLookup_type, builtinLookup_eq_fast]; kernel_rfl, by decide +kernel⟩, by rw [typeLookup_type, builtinLookup_eq_fast]; kernel_rfl⟩
theorem no_call : typeLookup (.type "str") "__call__" = pure none := by rw [typeLookup_type, builtinLookup_eq_fast]; kernel_rfl
theorem args_sub (a b c : Value) : argsOk "re.Pattern.sub" ⟨[a, b, c], []⟩ := by
  unfold argsOk; rw [signature?_of (id := "re.Pattern.sub") (n := ['b', 'u', 's']) (o := ['n', 'r', 'e', 't', 't', 'a', 'P', '.', 'e', 'r']) (by kernel_rfl) owner_pat]; kernel_rfl
end RF

open PySem.Builtin.Re
noncomputable def PatAt (g : View) (p : Addr) (code : Array Nat) : Prop := ∃ pt fl c oc items n, g p = some { cls := .type "re.Pattern", data := .fields #[pt, fl, .int 0 0, .none, .none, .ref c, .int 0 0] } ∧ g c = some oc ∧ oc.data = .seq items n ∧ (items.map reRawOf).map (·.toNat) = code
theorem PatAt.mono {g g' : View} {p : Addr} {code : Array Nat} (x : PatAt g p code) (h : Sub g g') : PatAt g' p code :=
  let ⟨pt, fl, c, oc, items, n, a, b, r⟩ := x; ⟨pt, fl, c, oc, items, n, h _ _ a, h _ _ b, r⟩
section
variable {M : Model} {A : Around} {E : Value → Shared → Prop} {s : Shared}

theorem whole {p : Addr} {code : Array Nat} {x : Str} {t : Tok} {Q : ReTarget → Shared → Prop} (P : PatAt s.heap.get? p code)
    (h : Q { pattern := .ref p, string := .str x t, code, text := x.cps, kind := 0, groups := 0, pos := 0, lim := x.cps.size } s) : wpAny M A (reWholeTarget (.ref p) (.str x t)) Q E s := by
  obtain ⟨pt, fl, c, oc, items, n, hp, hc, hd, rfl⟩ := P
  unfold reWholeTarget
  refine wpAny_bind (wpAny_fieldsOf hp rfl ?_)
  refine wpAny_bind (m := reTextOf _) ?_
  show wpAny M A (pure (x.cps, 0)) _ _ _
  refine wpAny_pure ?_
  show wpAny M A (do reNoCollectionInside (.str x t) 0; _) _ _ _
  refine wpAny_bind (m := reNoCollectionInside (.str x t) 0) (wpAny_pure ?_)
  refine wpAny_bind ?_
  unfold reRawItems seqItems?
  refine wpAny_bind (wpAny_bind (wpAny_load hc ?_))
  rw [hd]
  exact wpAny_pure (wpAny_pure (wpAny_pure h))

theorem drive {N : Nat} : ∀ (T N : Nat) (m : Sre.M) (Q : Sre.M → Shared → Prop), N < 4 * T → (iter N m).outcome.isSome = true → Q (iter N m) s → wpAny M A (reDrive T m) Q E s
  | 0, N, m, Q, h, _, _ => absurd h (Nat.not_lt_zero _)
  | T + 1, N, m, Q, h, ho, hq => by
    unfold reDrive
    have e : m.runFor reTurnSteps = iter 4 m := runFor_iter 4 m
    rw [e]
    by_cases hN : N ≤ 4
    · have e2 : iter 4 m = iter N m := by
        have : 4 = N + (4 - N) := by omega
        rw [this, iter_add, iter_done ho]
      rw [e2]
      show wpAny M A (if (iter N m).outcome.isSome = true then _ else _) _ _ _
      rw [if_pos ho]
      exact wpAny_pure hq
    · have e2 : iter N m = iter (N - 4) (iter 4 m) := by
        have : N = 4 + (N - 4) := by omega
        conv => lhs; rw [this]
        rw [iter_add]
      show wpAny M A (if (iter 4 m).outcome.isSome = true then _ else _) _ _ _
      by_cases h4 : (iter 4 m).outcome.isSome = true
      · rw [if_pos h4]
        rw [e2, iter_done h4] at hq
        exact wpAny_pure hq
      · rw [if_neg h4]
        refine wpAny_bind (wpAny_rule ?_)
        rw [e2] at ho hq
        exact drive (N := N) T (N - 4) _ Q (by omega) ho hq
theorem forIn_skip {f : Nat → PUnit → Sem (ForInStep PUnit)} (hf : ∀ i u (Q : ForInStep PUnit → Shared → Prop), Q (.yield ⟨⟩) s → wpAny M A (f i u) Q E s) : ∀ (l : List Nat) (Q : PUnit → Shared → Prop), Q ⟨⟩ s → wpAny M A (forIn l ⟨⟩ f) Q E s
  | [], Q, h => by rw [List.forIn_nil]; exact wpAny_pure h
  | i :: l, Q, h => by
    rw [List.forIn_cons]
    exact wpAny_bind (hf i ⟨⟩ _ (forIn_skip hf l Q h))
noncomputable def Got : Option (Nat × Nat) → Option Sre.M → Prop
  | some (a, b), some m' => m'.start = a ∧ m'.handed = b
  | none, none => True
  | _, _ => False
theorem toEnd {N : Nat} {m : Sre.M} {r : Option (Nat × Nat)} {Q : Option Sre.M → Shared → Prop} (hN : N ≤ 2 ^ 40) (e : Ends N m r)
    (hQ : ∀ m', Got r m' → Q m' s) : wpAny M A (reRunToEnd m) Q E s := by
  have ho : (iter N m).outcome.isSome = true := by
    cases r with
    | none => unfold Ends at e; rw [e]; rfl
    | some x => unfold Ends at e; rw [e.1]; rfl
  unfold reRunToEnd
  refine wpAny_bind (drive (N := N) (2 ^ 64) N m _ (by omega) ho ?_)
  refine wpAny_bind (forIn_skip (fun i u Q' h => ?_) _ _ ?_)
  · by_cases hi : (iter N m).seen.has i = true
    · rw [if_pos hi]; exact wpAny_bind (wpAny_rule (wpAny_pure h))
    · rw [if_neg hi]; exact wpAny_pure h
  · cases r with
    | none =>
      unfold Ends at e
      rw [e]
      exact wpAny_pure (hQ none trivial)
    | some x =>
      obtain ⟨a, b⟩ := x
      unfold Ends at e
      rw [e.1]
      exact wpAny_pure (hQ (some _) ⟨e.2.1, e.2.2⟩)
end
end
end Mine
end
section
open PySem PySem.W PySem.Calls PyProof.Rows PySem.Builtin.Re
set_option Elab.async false
set_option maxRecDepth 100000
namespace Mine
noncomputable section

noncomputable def subP (F : Nat → Option (Nat × Nat)) (text : Array Nat) (rep : List Nat) : Nat → Nat → Option (List (List Nat))
  | 0, _ => none
  | n + 1, d => match F d with
    | some (a, b) => (subP F text rep n b).map fun r => (if d < a then [(text.extract d a).toList] else []) ++ rep :: r
    | none => some (if d < text.size then [(text.extract d text.size).toList] else [])
structure Finds (code text : Array Nat) (F : Nat → Option (Nat × Nat)) : Prop where
  run : ∀ pos, pos ≤ text.size → ∃ N, N ≤ 2 ^ 40 ∧ Ends N (Sre.forSearch code text 0 pos text.size false) (F pos)
  ok : ∀ pos a b, pos ≤ text.size → F pos = some (a, b) → pos ≤ a ∧ a < b ∧ b ≤ text.size

theorem strs_app : ∀ {vs ws : List Value} {a b : List Str}, StrsAre vs a → StrsAre ws b → StrsAre (vs ++ ws) (a ++ b)
  | _, _, _, _, .nil, h => h
  | _, _, _, _, .cons y t r, h => .cons y t (strs_app r h)
theorem flat_join : ∀ l : List (List Nat), joinL [] l = l.flatten
  | [] => rfl
  | [x] => by simp [joinL]
  | x :: y :: r => by rw [joinL, flat_join (y :: r)]; simp
section
variable {prog : Program} {w : World} {A : Around} {s : Shared}
theorem push_piece {A : Around} {E : Value → Shared → Prop} {s : Shared} {D : Addr} {vs : List Value} {c : Nat} {v : Value} {Q : Unit → Shared → Prop} (ho : s.heap.get? D = some (listObj vs c)) (hz : vs.length ≤ 2 ^ 22)
    (hQ : ∀ h', h'.get? D = some (listObj (vs ++ [v]) (c + 1)) → Heap.SameBut D s.heap h' → Q () { s with heap := h' }) : wpAny (model prog w) A (updateSeq D (·.push v)) Q E s := by
  refine wpAny_updateSeq ho rfl (hQ _ ?_ (Heap.SameBut.update ..)) (by rw [List.size_toArray, sizeLine_eq]; omega) (by rw [Array.size_push, List.size_toArray, sizeLine_eq]; omega)
  rw [Heap.get?_update_self _ ho (by rw [Obj.mapSeq_push_plain]; rfl), Obj.mapSeq_push_plain]
  simp [listObj]

theorem sub_loop {p D : Addr} {code : Array Nat} {x : List Nat} {t : Tok} {y : List Nat} {u : Tok} {F : Nat → Option (Nat × Nat)} (hF : Finds code (txt x).cps F) (hx : x.length ≤ lim) (hpD : p ≠ D) {R : Result → Shared → Prop} :
    ∀ (n d : Nat) (cnt : Int) (s : Shared) (vs : List Value) (c : Nat) (done rest : List (List Nat)), PatAt (fun b => if b = D then none else s.heap.get? b) p code → d ≤ x.length → subP F (txt x).cps y n d = some rest → s.heap.get? D = some (listObj vs c) → StrsAre vs (done.map txt) → vs.length ≤ 2 * d →
      ((done ++ rest).map List.length).sum ≤ lim →
      (∀ h' tk v, (∃ t', v = .str (txt (done ++ rest).flatten) t') → (∀ b o, b ≠ D → s.heap.get? b = some o → h'.get? b = some o) → R (.ok (.ret v)) { s with heap := h', toks := tk }) →
      codeAny (model prog w) A (.builtin "re.Pattern.sub.loop" ⟨[.ref p, .str (txt x) t, .str (txt y) u, rawInt 0, rawInt 0, rawInt cnt, rawInt d, rawInt d, .bool false, .ref D, .bool false], []⟩) R s := by
  intro n
  induction n with
  | zero => intro d cnt s vs c done rest _ _ e; cases e
  | succ n ih =>
    intro d cnt s vs c done rest P hd e hD hv hlen hsum hQ
    have hsz : (txt x).cps.size = x.length := by simp [txt]
    have hlim := hx
    rw [lim_eq] at hlim hsum
    have P' : PatAt s.heap.get? p code := P.mono fun b o q => by
      by_cases hb : b = D
      · dsimp only at q; rw [if_pos hb] at q; cases q
      · dsimp only at q; rw [if_neg hb] at q; exact q
    refine codeAny_builtin RF.entry_loop ?_
    rw [Around.under_plainId RF.plain_loop]
    show wpAny _ _ (do
      let t ← reWholeTarget (.ref p) (.str (txt x) t)
      _) _ _ s
    refine wpAny_bind (whole P' ?_)
    show wpAny _ _ (do reLiteralCannotBeTurned (.str (txt y) u); _) _ _ s
    refine wpAny_bind (m := reLiteralCannotBeTurned (.str (txt y) u)) (wpAny_pure ?_)
    refine wpAny_bind (m := reNextFound _ _ _) ?_
    obtain ⟨N, hN, EN⟩ := hF.run d (by rw [hsz]; exact hd)
    refine toEnd (r := F d) hN EN fun m' hm => ?_
    rw [subP] at e
    cases hf : F d with
    | none =>
      rw [hf] at hm e
      cases m' with
      | some m' => exact hm.elim
      | none =>
        cases e
        have fin : ∀ (s1 : Shared) (vs1 : List Value) (c1 : Nat) (out : List (List Nat)), (∃ h1 t1, s1 = { s with heap := h1, toks := t1 } ∧ ∀ b o, b ≠ D → s.heap.get? b = some o → h1.get? b = some o) → s1.heap.get? D = some (listObj vs1 c1) → StrsAre vs1 (out.map txt) → (out.map List.length).sum ≤ 2 ^ 20 →
            out = done ++ (if d < (txt x).cps.size then [((txt x).cps.extract d (txt x).cps.size).toList] else []) →
            wpAny (model prog w) A.in1 (do
              let joiner ← reSlice (txt x).cps 0 0 0
              let text ← if ((← seqItems? (.ref D)).getD #[]).isEmpty then pure joiner else call (.builtin "str.join") [joiner, .ref D]
              ret text) (fun fin s' => match fin with | .done f => R (.ok f) s' | .again c' => c'.quiet = true ∧ codeAny (model prog w) A c' R s') (fun e s' => R (.error e) s') s1 := by
          rintro s1 vs1 c1 out ⟨h1, t1, rfl, hk⟩ hD1 hv1 hs1 eo
          subst eo
          refine wpAny_bind (m := reSlice _ _ _ _) (wpAny_mkStr ?_ (by show (⟨(txt x).cps.extract 0 0⟩ : Str).length ≤ _; simp [Str.length]))
          have ej : (⟨(txt x).cps.extract 0 0⟩ : Str) = txt [] := by simp [txt]
          rw [ej]
          refine wpAny_bind ?_
          unfold seqItems?
          refine wpAny_bind (wpAny_load hD1 (wpAny_pure ?_))
          show wpAny _ _ (if vs1.toArray.isEmpty = true then _ else _) _ _ _
          by_cases hem : vs1.toArray.isEmpty = true
          · rw [if_pos hem]
            have : vs1 = [] := by simpa using hem
            subst this
            cases hv1' : (done ++ (if d < (txt x).cps.size then [((txt x).cps.extract d (txt x).cps.size).toList] else [])) with
            | nil =>
              exact wpAny_bind (wpAny_pure (wpAny_pure (hQ h1 _ _ ⟨t1, by rw [hv1']; rfl⟩ hk)))
            | cons z zs => rw [hv1'] at hv1; cases hv1
          · rw [if_neg hem]
            have hL : ({ s with heap := h1, toks := t1 + 1 } : Shared).heap.IsList D vs1.toArray := ⟨_, hD1, rfl, c1, rfl⟩
            refine wpAny_bind (PyProof.Rows.join_list hL hv1 ?_ fun t' tk => ?_)
            · have e2 : (Str.length ∘ txt) = List.length := by funext l; exact txt_length l
              rw [List.map_map, e2, txt_length]; simp only [List.length_nil, Nat.mul_zero]; omega
            · have e1 : Txt.join (txt []) ((done ++ (if d < (txt x).cps.size then [((txt x).cps.extract d (txt x).cps.size).toList] else [])).map txt) = txt (done ++ (if d < (txt x).cps.size then [((txt x).cps.extract d (txt x).cps.size).toList] else [])).flatten :=
                (StrLaws.glued_eq_join _ _).trans ((join_txt _ _).trans (by rw [flat_join]))
              rw [e1]
              exact wpAny_pure (hQ h1 tk _ ⟨t', rfl⟩ hk)
        show wpAny _ _ (do
          if d < (txt x).cps.size then updateSeq D (·.push (← reSlice (txt x).cps 0 d (txt x).cps.size))
          _) _ _ s
        by_cases hlt : d < (txt x).cps.size
        · rw [if_pos hlt]
          refine wpAny_bind (m := reSlice _ _ _ _) (wpAny_mkStr ?_ (by show (⟨(txt x).cps.extract d (txt x).cps.size⟩ : Str).length ≤ _; rw [sizeLine_eq]; simp [Str.length]; omega))
          refine wpAny_bind (push_piece (s := { s with toks := s.toks + 1 }) hD (by omega) fun h1 ho1 hs1 => ?_)
          refine fin _ (vs ++ [.str (txt ((txt x).cps.extract d (txt x).cps.size).toList) s.toks]) (c + 1) (done ++ [((txt x).cps.extract d (txt x).cps.size).toList]) ⟨h1, _, rfl, fun b o hb q => by rw [hs1.2 b hb]; exact q⟩ ho1 ?_ (by rw [if_pos hlt] at hsum; exact hsum) (by rw [if_pos hlt])
          rw [List.map_append]
          exact strs_app hv (.cons _ _ .nil)
        · rw [if_neg hlt]
          rw [if_neg hlt, List.append_nil] at hsum
          exact (fin s vs c done ⟨s.heap, s.toks, rfl, fun _ _ _ q => q⟩ hD hv hsum (by rw [if_neg hlt, List.append_nil]))
    | some ab =>
      obtain ⟨a, b⟩ := ab
      rw [hf] at hm e
      cases m' with
      | none => exact hm.elim
      | some m' =>
        obtain ⟨e1, e2⟩ := hm
        obtain ⟨rest', er, rfl⟩ := Option.map_eq_some_iff.mp e
        obtain ⟨o1, o2, o3⟩ := hF.ok d a b (by rw [hsz]; exact hd) hf
        rw [hsz] at o3
        have again : ∀ (s1 : Shared) (vs1 : List Value) (c1 : Nat) (out : List (List Nat)), (∃ h1 t1, s1 = { s with heap := h1, toks := t1 } ∧ ∀ b o, b ≠ D → s.heap.get? b = some o → h1.get? b = some o) → s1.heap.get? D = some (listObj vs1 c1) → StrsAre vs1 (out.map txt) → vs1.length ≤ 2 * d + 1 →
            out = done ++ (if d < a then [((txt x).cps.extract d a).toList] else []) →
            wpAny (model prog w) A.in1 (do
              let item ← (pure (.str (txt y) u) : Sem Value)
              if item != .none then updateSeq D (·.push item)
              again (.builtin "re.Pattern.sub.loop" ⟨[.ref p, .str (txt x) t, .str (txt y) u, rawInt 0, rawInt 0, rawInt (cnt + 1), rawInt m'.handed, rawInt m'.handed, .bool (m'.handed == a), .ref D, .bool false], []⟩)) (fun fin s' => match fin with | .done f => R (.ok f) s' | .again c' => c'.quiet = true ∧ codeAny (model prog w) A c' R s') (fun e s' => R (.error e) s') s1 := by
          rintro s1 vs1 c1 out ⟨h1, t1, rfl, hk⟩ hD1 hv1 hl1 eo
          subst eo
          refine wpAny_bind (wpAny_pure ?_)
          show wpAny _ _ (do updateSeq D (·.push (.str (txt y) u)); _) _ _ _
          refine wpAny_bind (push_piece (s := { s with heap := h1, toks := t1 }) hD1 (by omega) fun h2 ho2 hs2 => ?_)
          have hm2 : (m'.handed == a) = false := by rw [e2]; simp; omega
          rw [hm2, e2]
          have hk2 : ∀ b o, b ≠ D → s.heap.get? b = some o → h2.get? b = some o := fun b o hb q => by rw [hs2.2 b hb]; exact hk b o hb q
          refine wpAny_pure ⟨plainId_quiet RF.plain_loop _, ?_⟩
          refine ih b (cnt + 1) { s with heap := h2, toks := t1 } (vs1 ++ [.str (txt y) u]) (c1 + 1) (done ++ (if d < a then [((txt x).cps.extract d a).toList] else []) ++ [y]) rest' ?_ o3 er ho2 ?_ ?_ ?_ ?_
          · refine P.mono fun b o q => ?_
            by_cases hb : b = D
            · dsimp only at q; rw [if_pos hb] at q; cases q
            · dsimp only at q ⊢; rw [if_neg hb] at q ⊢; exact hk2 b o hb q
          · rw [List.map_append]; exact strs_app hv1 (.cons _ _ .nil)
          · simp; omega
          · rw [lim_eq]; simpa [List.append_assoc] using hsum
          · intro h' tk v hv' hk'
            refine hQ h' tk v ?_ fun b o hb q => hk' b o hb (hk2 b o hb q)
            simpa [List.append_assoc] using hv'
        show wpAny _ _ (do
          if d < m'.start then updateSeq D (·.push (← reSlice (txt x).cps 0 d m'.start))
          _) _ _ s
        rw [e1]
        by_cases hlt : d < a
        · rw [if_pos hlt]
          refine wpAny_bind (m := reSlice _ _ _ _) (wpAny_mkStr ?_ (by show (⟨(txt x).cps.extract d a⟩ : Str).length ≤ _; rw [sizeLine_eq]; simp [Str.length]; omega))
          refine wpAny_bind (push_piece (s := { s with toks := s.toks + 1 }) hD (by omega) fun h1 ho1 hs1 => ?_)
          refine again _ (vs ++ [.str (txt ((txt x).cps.extract d a).toList) s.toks]) (c + 1) (done ++ [((txt x).cps.extract d a).toList]) ⟨h1, _, rfl, fun b o hb q => by rw [hs1.2 b hb]; exact q⟩ ho1 ?_ (by simp; omega) (by rw [if_pos hlt])
          rw [List.map_append]
          exact strs_app hv (.cons _ _ .nil)
        · rw [if_neg hlt]
          exact (again s vs c done ⟨s.heap, s.toks, rfl, fun _ _ _ q => q⟩ hD hv (by omega) (by rw [if_neg hlt, List.append_nil]))
end
end
end Mine
end
section
open PySem PySem.W PySem.Calls PyProof.Rows PySem.Builtin.Re
set_option Elab.async false
set_option maxRecDepth 100000
namespace Mine
noncomputable section

section
variable {prog : Program} {w : World} {H : View} {k : Nat} {env : Env} {names : Names}

noncomputable def psubV (Fd : Array Nat → Nat → Option (Nat × Nat)) : List PV → Option PV
  | [.str y, .str x] => if (y.contains 92) = false ∧ x.length ≤ lim then (subP (Fd (txt x).cps) (txt x).cps y (x.length + 1) 0).bind fun ps => if (ps.map List.length).sum ≤ lim then some (.str ps.flatten) else none else none
  | _ => none
theorem call_sub {A : Around} {s : Shared} {p : Addr} {code : Array Nat} {Fd : Array Nat → Nat → Option (Nat × Nat)} {x y : List Nat} {t u : Tok} {ps : List (List Nat)} {Q : Value → Shared → Prop} (hF : ∀ text : Array Nat, text.size ≤ lim → Finds code text (Fd text)) (P : PatAt s.heap.get? p code)
    (hy : (y.contains 92) = false) (hx : x.length ≤ lim) (e : subP (Fd (txt x).cps) (txt x).cps y (x.length + 1) 0 = some ps) (hs : (ps.map List.length).sum ≤ lim)
    (hQ : ∀ h' tk t', Ext s.heap h' → Q (.str (txt ps.flatten) t') { s with heap := h', toks := tk }) :
    wpAny (model prog w) A (call (.builtin "re.Pattern.sub") [.ref p, .str (txt y) u, .str (txt x) t]) Q NoE s := by
  have hT : s.TypeIs (.ref p) "re.Pattern" := by
    obtain ⟨pt, fl, c, oc, items, n, hp, _⟩ := P
    exact ⟨_, hp, rfl⟩
  refine wpAny_call (codeAny_call_builtin RF.slot_sub.plain RF.entry_sub (RF.slot_sub.check _ _ _ _ _ _ _ _ hT (RF.args_sub _ _ _) ?_))
  show wpAny _ _ (reSubstitute "re.Pattern.sub" "sub" false ⟨[.ref p, .str (txt y) u, .str (txt x) t], []⟩) _ _ _
  unfold reSubstitute
  refine wpAny_bind (wpAny_of_eq (a := [some (.str (txt y) u), some (.str (txt x) t), none]) (by rfl) ?_)
  refine wpAny_bind (wpAny_pure ?_)
  refine wpAny_bind (wpAny_specialOf (typeIs_str _ _ _) RF.no_call ?_)
  show wpAny _ _ (asStr? (.str (txt y) u) >>= _) _ _ _
  refine wpAny_bind (m := asStr? _) (wpAny_pure ?_)
  have hc : (!(txt y).cps.contains 92) = true := by
    have : (txt y).cps.contains 92 = y.contains 92 := by simp [txt]
    rw [this, hy]; rfl
  refine wpAny_bind (m := (pure (!(txt y).cps.contains 92) : Sem Bool)) (wpAny_pure ?_)
  rw [hc]
  refine wpAny_bind (m := pure (Value.str (txt y) u, _)) (wpAny_pure ?_)
  refine wpAny_bind (wpAny_holding (whole P ?_))
  refine wpAny_bind (m := newList []) (wpAny_newList ?_)
  refine wpAny_pure ⟨plainId_quiet RF.plain_loop _, ?_⟩
  have hp : ∃ o, s.heap.get? p = some o := by obtain ⟨pt, fl, c, oc, items, n, hp, _⟩ := P; exact ⟨_, hp⟩
  obtain ⟨op, hop⟩ := hp
  have X := Ext.push s.heap (listObj [] 0)
  have hne : ∀ b o, s.heap.get? b = some o → b ≠ s.heap.objs.size := fun b o q => Nat.ne_of_lt (Heap.lt_size q)
  refine sub_loop (prog := prog) (w := w) (D := s.heap.objs.size) (hF (txt x).cps (by simpa [txt] using hx)) hx (hne _ _ hop) (x.length + 1) 0 0 { s with heap := s.heap.push (listObj [] 0) } [] 0 [] ps ?_ (Nat.zero_le _) e (Heap.get?_push_size _ rfl) .nil (by simp) (by simpa using hs) ?_
  · refine P.mono fun b o q => ?_
    dsimp only
    rw [if_neg (hne _ _ q)]
    exact X _ _ q
  · rintro h' tk v ⟨t', rfl⟩ hk
    rw [List.nil_append]
    exact hQ h' tk t' fun b o q => hk b o (hne _ _ q) (X _ _ q)

theorem E_patSub {x : Str} {p apos pos : Pos} {P : Addr} {code : Array Nat} {Fd : Array Nat → Nat → Option (Nat × Nat)} {args : List Expr} {pl : Sem Bool} {fs : St → Option (List PV)} (hv : VOk prog w H env names (.Name x p) (.ref P)) (hP : PatAt H P code) (hF : ∀ text : Array Nat, text.size ≤ lim → Finds code text (Fd text))
    (ha : AOk prog w H k env names args fs) (hp : PlainArgs env args)
    (he : eval (.Call (.Attribute (.Name x p) "sub" apos) args [] pos) env = (do
      let ov ← eval (.Name x p) env
      standAt apos.atName
      let (f, first) ← holding [ov] (getMethod ov "sub" pl)
      callWith pos f first (backTo pos (starEach args env)) []) := by rfl) :
    EOk prog w H k env names (.Call (.Attribute (.Name x p) "sub" apos) args [] pos) (fun σ => (fs σ).bind (psubV Fd)) := by
  refine ⟨?_⟩
  intro A s base g σ d Q R F e hQ
  obtain ⟨ds, eds, e2⟩ := Option.bind_eq_some_iff.mp e
  refine MethodCall_ (hv.out A s base g σ _ F ?_) he
  have hP1 := hP.mono (F.home.trans F.subG)
  have hT : s.TypeIs (.ref P) "re.Pattern" := by
    obtain ⟨pt, fl, c, oc, items, n, hp, _⟩ := hP1
    exact ⟨_, hp, rfl⟩
  refine getMethod_builtin hT RF.plainAttrs RF.slot_sub RF.type_sub (fun a ea => ?_) ?_
  · cases ea
    obtain ⟨pt, fl, c, oc, items, n, hp, _⟩ := hP1
    exact ⟨_, hp, rfl⟩
  · refine callWith_builtin (hp pos).1 (evalArgs_A (hp pos).2 (ha.out A pos _ base g σ ds _ R F eds fun vs h1 t1 g1 T1 r1 => ?_))
    unfold psubV at e2
    split at e2
    · rename_i y xx
      split at e2
      · rename_i hc
        obtain ⟨ps, eps, e3⟩ := Option.bind_eq_some_iff.mp e2
        split at e3
        · rename_i hs
          cases e3
          rw [Rds] at r1
          obtain ⟨v, vs', rfl, r1, r2⟩ := r1
          rw [Rds] at r2
          obtain ⟨v', vs'', rfl, r2, r3⟩ := r2
          rw [Rds] at r3; subst r3
          obtain ⟨t, rfl⟩ := rd_str.mp r1
          obtain ⟨t', rfl⟩ := rd_str.mp r2
          exact call_sub (s := { s with heap := h1, toks := t1 }) hF (hP.mono (F.home.trans (T1.sub.trans T1.into))) hc.1 hc.2 eps hs fun h2 tk t2 X => hQ _ h2 tk g1 (T1.trans (Step.keep T1.into X)) (rd_str.mpr ⟨t2, rfl⟩)
        · cases e3
      · cases e2
    · cases e2
end

noncomputable def F1 (text : Array Nat) (pos : Nat) : Option (Nat × Nat) := (find1 text (text.size + 1 - pos) pos).map fun q => (q, q + 1)
noncomputable def F2 (text : Array Nat) (pos : Nat) : Option (Nat × Nat) := (find2 text (text.size + 1 - pos) pos).map fun q => (q, q + len2 text q)
theorem find1_some {text : Array Nat} : ∀ {n s q : Nat}, find1 text n s = some q → s ≤ q ∧ hit1 text q = true
  | 0, _, _, h => by cases h
  | n + 1, s, q, h => by
    rw [find1] at h
    split at h
    · rename_i a; cases h; exact ⟨Nat.le_refl _, a⟩
    · have := find1_some h; exact ⟨by omega, this.2⟩
theorem find2_ge {text : Array Nat} : ∀ {n s q : Nat}, find2 text n s = some q → s ≤ q
  | 0, _, _, h => by cases h
  | n + 1, s, q, h => by
    rw [find2] at h
    split at h
    · cases h
    · split at h
      · cases h; exact Nat.le_refl _
      · have := find2_ge h; omega
theorem len2_pos (text : Array Nat) (q : Nat) : 1 ≤ len2 text q := by unfold len2; cases (text.getD q 0 == 13 && (decide (q + 1 < text.size) && text.getD (q + 1) 0 == 10)) <;> simp
theorem len2_le {text : Array Nat} {q : Nat} (h : q < text.size) : q + len2 text q ≤ text.size := by
  unfold len2
  cases hh : (text.getD q 0 == 13 && (decide (q + 1 < text.size) && text.getD (q + 1) 0 == 10)) with
  | false => rw [if_neg Bool.false_ne_true]; exact h
  | true =>
    rw [Bool.and_eq_true, Bool.and_eq_true] at hh
    have := of_decide_eq_true hh.2.1
    rw [if_pos rfl]; omega
theorem finds1 (text : Array Nat) (h : text.size ≤ lim) : Finds code1 text (F1 text) := by
  refine ⟨fun pos hp => ?_, fun pos a b hp e => ?_⟩
  · obtain ⟨N, hN, E⟩ := begin1 text pos hp
    exact ⟨N, by rw [lim_eq] at h; omega, E⟩
  · obtain ⟨q, hq, e2⟩ := Option.map_eq_some_iff.mp e
    cases e2
    obtain ⟨h1, h2⟩ := find1_some hq
    unfold hit1 at h2
    rw [Bool.and_eq_true, Bool.and_eq_true] at h2
    have := of_decide_eq_true h2.2.1
    omega
theorem finds2 (text : Array Nat) (_h : text.size ≤ lim) : Finds code2 text (F2 text) := by
  refine ⟨fun pos hp => ?_, fun pos a b hp e => ?_⟩
  · obtain ⟨N, hN, E⟩ := begin2 text pos hp
    exact ⟨N, by omega, E⟩
  · obtain ⟨q, hq, e2⟩ := Option.map_eq_some_iff.mp e
    cases e2
    have h1 := find2_ge hq
    have h2 := (find2_some hq).1
    exact ⟨h1, Nat.lt_add_of_pos_right (len2_pos text _), len2_le h2⟩
end
end Mine
end
section
open PySem PySem.W PySem.Calls PyProof.Rows
set_option Elab.async false
set_option maxRecDepth 100000
namespace Mine
noncomputable section

noncomputable def NmOk (env : Env) : Str × SK → Prop
  | (x, .loc) => env.kindOf x = some .local
  | (x, .own c) => env.kindOf x = some .cell ∧ env.cells.lookup x = some c
  | (x, .far c) => (env.kindOf x = some .cell) ∧ env.cells.lookup x = some c
noncomputable def AllNm (env : Env) : Names → Prop
  | [] => True
  | p :: r => NmOk env p ∧ AllNm env r
theorem nm_loc {env : Env} {x : Str} (h : env.kindOf x = some .local) : NmOk env (x, .loc) := h
theorem nm_own {env : Env} {x : Str} {c : Addr} (h : env.kindOf x = some .cell) (h' : env.cells.lookup x = some c) : NmOk env (x, .own c) := ⟨h, h'⟩
theorem nm_far {env : Env} {x : Str} {c : Addr} (h : env.kindOf x = some .cell) (h' : env.cells.lookup x = some c) : NmOk env (x, .far c) := ⟨h, h'⟩
theorem AllNm.mem {env : Env} : ∀ {names : Names} {p : Str × SK}, AllNm env names → p ∈ names → NmOk env p
  | p :: r, q, h, hm => by
    rcases List.mem_cons.mp hm with e | hm
    · rw [e]; exact h.1
    · exact h.2.mem hm
theorem EnvOk.of {env : Env} {names : Names} (hk : env.scope.kind = .function) (h : AllNm env names) (hd : (names.map (·.1)).all (fun x => !(x == ("__debug__" : Str))) = true) (nd : (names.map (·.1)).Nodup)
    (ap : ∀ x y c, (x, SK.own c) ∈ names → (y, SK.own c) ∈ names → x = y) : EnvOk env names where
  kind := hk
  loc := fun x hm => h.mem hm
  own := fun x c hm => h.mem hm
  far := fun x c hm => ⟨.inl (h.mem hm).1, (h.mem hm).2⟩
  dbg := fun p hm => by
    have := List.all_eq_true.mp hd p.1 (List.mem_map_of_mem hm)
    simpa using this
  nodup := nd
  apart := ap
noncomputable def locs (xs : List Str) : Names := xs.map fun x => (x, .loc)
theorem locs_apart (xs : List Str) : ∀ x y c, (x, SK.own c) ∈ locs xs → (y, SK.own c) ∈ locs xs → x = y := by
  intro x y c h
  simp [locs] at h

structure Home (K : Frag) (H : View) (mg mb : Str → Option Value) : Prop where
  kh : KH K H
  gl : Globs H mg mb
  lim : ∀ h : Heap, Sub H h.get? → h.NoLimit
  mgs : ∀ x r, nsIn K mainGlobals x = some r → mg x = r
  mbs : ∀ x : Str, x ≠ "__name__" → mb x = bootBuiltins x
structure FnAt (K : Frag) (a : Addr) (fd : FuncData) : Prop where
  obj : ∃ o, K.lookup a = some o ∧ o.data = .func fd
  code : codeIn K fd.code fd.qualname = true
  keep : keepIn K (.ref a) = true

section
variable {prog : Program} {w : World} {H : View} {k : Nat} {env : Env} {names : Names} {K : Frag} {mg mb : Str → Option Value}

theorem V_fn {x : Str} {p : Pos} {v : Value} (hm : Home K H mg mb) (hg : nsIn K mainGlobals x = some (some v)) (hk : env.scope.kind = .function := by rfl) (hx : env.kindOf x = some .globalImplicit := by kernel_rfl) (eg : env.globals = mainGlobals := by rfl) (hd : (x == ("__debug__" : Str)) = false := by decide) :
    VOk prog w H env names (.Name x p) v := V_global hm.gl hk hx eg (hm.mgs _ _ hg) hd
theorem V_bi {x : Str} {p : Pos} {v : Value} (hm : Home K H mg mb) (hg : nsIn K mainGlobals x = some none) (hv : bootBuiltins x = some v := by kernel_rfl) (hk : env.scope.kind = .function := by rfl) (hx : env.kindOf x = some .globalImplicit := by kernel_rfl) (eg : env.globals = mainGlobals := by rfl) (eb : env.builtins = builtinsNs := by rfl) (hd : (x == ("__debug__" : Str)) = false := by decide) (hn : x ≠ "__name__" := by decide) :
    VOk prog w H env names (.Name x p) v := V_builtin hm.gl hk hx eg eb (hm.mgs _ _ hg) ((hm.mbs x hn).trans hv) hd
theorem E_callK {x : Str} {p pos : Pos} {f : Value} {es : List Expr} {F : List PV → Option PV} {fs : St → Option (List PV)} (hm : Home K H mg mb) (hv : VOk prog w H env names (.Name x p) f) (hk : keepIn K f = true) (hc : COk prog w H k f F) (ha : AOk prog w H k env names es fs) (hp : PlainArgs env es) :
    EOk prog w H k env names (.Call (.Name x p) es [] pos) (callf F fs) := by
  refine ⟨?_⟩
  intro A s base g σ d Q R Fr e hQ
  obtain ⟨ds, eds, e⟩ := Option.bind_eq_some_iff.mp e
  rw [arm_call]
  refine wpAny_bind (hv.out A s base g σ _ Fr ?_)
  refine callWith_of (P := K.In) (by rw [(hp pos).1]; rfl) (keeps_K hk) (evalArgs_A (hp pos).2 (ha.out A pos s base g σ ds _ R Fr eds fun vs h1 t1 g1 T1 r1 => ⟨hm.kh.in_ (Fr.home.trans (T1.sub.trans T1.into)), ?_⟩))
  exact hc.out A _ g1 vs ds d _ R (Fr.home.trans T1.sub) T1.into r1 e fun v h2 t2 g2 T2 r2 => hQ v h2 t2 g2 (T1.trans T2) r2
theorem DefOk.of {a : Addr} {fd : FuncData} {body : List Stmt} {ps : List Str} {N : Nat} {names : Addr → Names} (hm : Home K H mg mb) (f : FnAt K a fd) (hb : fd.body = .stmts body) (hc : fd.closure = []) (hco : fd.scope.isCoroutine = false) (hgen : fd.scope.isGenerator = false) (hk : fd.scope.kind = .function)
    (len : ∀ L, (names L).length = N) (le : ps.length ≤ N) (ok : ∀ L, EnvOk (callEnvC fd L a) (names L)) (pars : ∀ L i x k, (names L)[i]? = some (x, k) → i < ps.length → ps[i]? = some x)
    (par : ∀ L, ∀ x ∈ ps, fd.scope.names.lookup x = some .local ∨ (fd.scope.names.lookup x = some .cell ∧ ((cellsFrom (L + 1) fd.scope.names []).lookup x).isSome = true)) (nofar : ∀ L x c, (x, SK.far c) ∉ names L) (nd : ps.Nodup) : DefOk H a fd body ps N names where
  body := hb
  clo := hc
  co := hco
  gen := hgen
  kind := hk
  at_ := let ⟨o, h1, h2⟩ := f.obj; ⟨o, hm.kh _ _ h1, h2⟩
  code := fun h S => codeRec_of (hm.kh.in_ S) f.code
  lim := hm.lim
  len := len
  le := le
  ok := ok
  pars := pars
  par := par
  nofar := nofar
  nodup := nd
theorem DefOk.locals {a : Addr} {fd : FuncData} {body : List Stmt} (ps rest : List Str) (hm : Home K H mg mb) (f : FnAt K a fd) (hb : fd.body = .stmts body) (hc : fd.closure = []) (hco : fd.scope.isCoroutine = false) (hgen : fd.scope.isGenerator = false) (hk : fd.scope.kind = .function)
    (ok : ∀ L, EnvOk (callEnvC fd L a) (locs (ps ++ rest))) (par : ps.all (fun x => fd.scope.names.lookup x == some .local) = true) (nd : ps.Nodup) : DefOk H a fd body ps (ps ++ rest).length (fun _ => locs (ps ++ rest)) :=
  .of hm f hb hc hco hgen hk (fun _ => by simp [locs]) (by simp) ok (fun L i x k h hi => by
    simp only [locs, List.getElem?_map] at h
    obtain ⟨y, hy, e⟩ := Option.map_eq_some_iff.mp h
    cases e
    rw [List.getElem?_append_left hi] at hy
    exact hy) (fun L x hx => .inl (by have := List.all_eq_true.mp par x hx; simpa using this)) (fun L x c h => by simp [locs] at h) nd
theorem T_bool {e : Expr} {f : St → Option PV} (he : EOk prog w H k env names e f) (hw : ∀ whole, isTrue e env whole = (do let v ← whole; standAt e.pos; holding [v] (truthy v)) := by intro _; rfl) : TOk prog w H k env names e (fun σ => (f σ).bind truthV) :=
  T_val he fun M A E Q s h => wpAny_isTrue_value h (hw _)
theorem T_tuple {e : Expr} {f : St → Option PV} (he : EOk prog w H k env names e f) (hw : ∀ whole, isTrue e env whole = (do let v ← whole; standAt e.pos; holding [v] (truthy v)) := by intro _; rfl) :
    TOk prog w H k env names e (fun σ => (f σ).bind fun d => (asTup d).bind fun xs => if xs.length ≤ lim then some (!xs.isEmpty) else none) :=
  T_tup he fun M A E Q s h => wpAny_isTrue_value h (hw _)
theorem COk.up {j : Nat} {f : Value} {F : List PV → Option PV} (h : COk prog w H j f F) (hj : j ≤ k) : COk prog w H k f F := by
  refine ⟨?_⟩
  intro A s g vs ds d Q R hH hg r e hQ
  exact h.out A s g vs ds d Q (R.less hj) hH hg r e hQ
theorem E_instMethK {C : Addr} {o : Expr} {name : Str} {apos pos : Pos} {args : List Expr} {pl : Sem Bool} {f : Addr} {fo : St → Option PV} {fs : St → Option (List PV)} {F : List PV → Option PV} (kh : KH K H) (mk : MethK K C name f) (ho : EOk prog w H k env names o fo) (hk : keepIn K (.ref f) = true) (hc : COk prog w H k (.ref f) F)
    (ha : AOk prog w H k env names args fs) (hp : PlainArgs env args)
    (he : eval (.Call (.Attribute o name apos) args [] pos) env = (do
      let ov ← eval o env
      standAt apos.atName
      let (f, first) ← holding [ov] (getMethod ov name pl)
      callWith pos f first (backTo pos (starEach args env)) []) := by rfl) :
    EOk prog w H k env names (.Call (.Attribute o name apos) args [] pos) (methI C name F fo fs) := by
  refine ⟨?_⟩
  intro A s base g σ d Q R Fr e hQ
  obtain ⟨ov, eo, e2⟩ := Option.bind_eq_some_iff.mp e
  obtain ⟨ov', eo', e3⟩ := Option.bind_eq_some_iff.mp e2
  obtain ⟨ds, eds, e4⟩ := Option.bind_eq_some_iff.mp e3
  cases ov <;> simp only [asInst] at eo' <;> first | (cases eo'; done) | skip
  rename_i C' ns xs
  split at eo'
  · rename_i hC
    obtain ⟨rfl, hn⟩ := hC
    cases eo'
    refine MethodCall_ (ho.out A s base g σ _ _ R Fr eo fun v h1 t1 g1 T1 r1 => ?_) he
    obtain ⟨x, dx, es, n, rfl, gx, gd, hks, r⟩ := rd_inst.mp r1
    have KX := kh.in_ (Fr.home.trans (T1.sub.trans T1.into))
    have hl := getL_none (name := name) es ns hks hn
    refine method_fn (s := { s with heap := h1, toks := t1 }) KX (⟨T1.into _ _ gx, rfl, rfl, T1.into _ _ gd⟩ : InstAt h1 x (instObj C' dx) C' (some (dictOf es n))) (plainGet_of mk.plain).1 (plainGet_of mk.plain).2 mk.find (beq_iff_eq.mp mk.fn)
      (by show (lookIn name (dictOf es n)).map _ = _; rw [lookIn_dict, hl]; rfl) ?_
    refine callWith_of (P := K.In) (by rw [(hp pos).1]; rfl) (keeps_K hk) (evalArgs_A (hp pos).2 (ha.out A pos _ base g1 σ ds _ R (Fr.step T1) eds fun vs h2 t2 g2 T2 r2 => ⟨kh.in_ (Fr.home.trans (T1.sub.trans (T2.sub.trans T2.into))), ?_⟩))
    refine hc.out A _ g2 (.ref x :: vs) (.inst C' ns xs :: ds) d _ R (Fr.home.trans (T1.sub.trans T2.sub)) T2.into (Rds.cons (Rd.mono T2.sub _ _ r1) r2) e4 fun v h3 t3 g3 T3 r3 => hQ v h3 t3 g3 ((T1.trans T2).trans T3) r3
  · cases eo'
end
end
end Mine
end
section
open PySem PySem.W PySem.Calls PyProof.Rows
set_option Elab.async false
set_option maxRecDepth 100000
set_option maxHeartbeats 4000000
namespace Mine
namespace L01
noncomputable section
noncomputable def fnParts : Stmt → Arguments × List Stmt × Scope
  | .FunctionDef _ args body _ _ _ scope _ _ _ => (args, body, scope)
  | _ => (⟨[], [], none, [], [], none, []⟩, [], ⟨.function, [], false, false, []⟩)
noncomputable def clsBody : Stmt → List Stmt
  | .ClassDef _ _ _ body _ _ _ _ _ _ _ => body
  | _ => []
noncomputable def stAt (b : List Stmt) (i : Nat) : Stmt := (b[i]?).getD (.Pass ⟨0, 0, 0, 0⟩)
noncomputable def forBody : Stmt → List Stmt
  | .For _ _ b _ _ => b
  | _ => []
noncomputable def item (n : Nat) : Stmt := (PySem.Challenge.pw_pg0161_01.main.body[n]?).getD (.Pass ⟨0, 0, 0, 0⟩)
noncomputable def meth (n : Nat) : Stmt := ((clsBody (item 11))[n]?).getD (.Pass ⟨0, 0, 0, 0⟩)
noncomputable def fd (name qual : Str) (st : Stmt) (pm cd : Value) : FuncData := fnOf name qual (fnParts st).1 (fnParts st).2.1 (fnParts st).2.2 .none .none .none pm none cd .none
noncomputable def fd__fix_eols : FuncData := fd "_fix_eols" "_fix_eols" (item 9) (.str "cpy313.smtplib" 299) (.ref 68)
noncomputable def fd_quotedata : FuncData := fd "quotedata" "quotedata" (item 8) (.str "cpy313.smtplib" 299) (.ref 61)
noncomputable def fd_replace : FuncData := fd "replace" "replace" (item 3) (.str "cpy313.pydoc" 289) (.ref 44)
noncomputable def fd_longest_run_of_spaces : FuncData := fd "longest_run_of_spaces" "Whitespace.longest_run_of_spaces" (meth 2) (.str "cpy313.tabnanny" 375) (.ref 92)
noncomputable def fd_indent_level : FuncData := fd "indent_level" "Whitespace.indent_level" (meth 3) (.str "cpy313.tabnanny" 375) (.ref 99)
noncomputable def fd_equal : FuncData := fd "equal" "Whitespace.equal" (meth 4) (.str "cpy313.tabnanny" 375) (.ref 106)
noncomputable def fd_less : FuncData := fd "less" "Whitespace.less" (meth 6) (.str "cpy313.tabnanny" 375) (.ref 120)
noncomputable def fd___init__ : FuncData := fd "__init__" "Whitespace.__init__" (meth 1) (.str "cpy313.tabnanny" 375) (.ref 85)
noncomputable def fd__law_mail : FuncData := fd "_law_mail" "_law_mail" (item 13) (.str "law_pg0161_01" 477) (.ref 141)
noncomputable def fd__law_due : FuncData := fd "_law_due" "_law_due" (item 14) (.str "law_pg0161_01" 477) (.ref 146)
noncomputable def fd__law_column : FuncData := fd "_law_column" "_law_column" (item 15) (.str "law_pg0161_01" 477) (.ref 151)
noncomputable def fd_law : FuncData := fd "law" "law" (item 16) (.str "law_pg0161_01" 477) (.ref 156)
structure Facts (K : Frag) : Prop where
  g_replace : nsIn K mainGlobals "replace" = some (some (.ref 45))
  g_quotedata : nsIn K mainGlobals "quotedata" = some (some (.ref 62))
  g__fix_eols : nsIn K mainGlobals "_fix_eols" = some (some (.ref 69))
  g_Whitespace : nsIn K mainGlobals "Whitespace" = some (some (.ref 131))
  g__law_mail : nsIn K mainGlobals "_law_mail" = some (some (.ref 142))
  g__law_due : nsIn K mainGlobals "_law_due" = some (some (.ref 147))
  g__law_column : nsIn K mainGlobals "_law_column" = some (some (.ref 152))
  g__twin_re_1 : nsIn K mainGlobals "_twin_re_1" = some (some (.ref 50))
  g__twin_re_2 : nsIn K mainGlobals "_twin_re_2" = some (some (.ref 55))
  g_CRLF : nsIn K mainGlobals "CRLF" = some (some (.str "\r\n" 359))
  b_len : nsIn K mainGlobals "len" = some none
  b_range : nsIn K mainGlobals "range" = some none
  b_sum : nsIn K mainGlobals "sum" = some none
  b_max : nsIn K mainGlobals "max" = some none
  b_tuple : nsIn K mainGlobals "tuple" = some none
  b_sorted : nsIn K mainGlobals "sorted" = some none
  fn__fix_eols : FnAt K 69 fd__fix_eols
  fn_quotedata : FnAt K 62 fd_quotedata
  fn_replace : FnAt K 45 fd_replace
  fn_longest_run_of_spaces : FnAt K 93 fd_longest_run_of_spaces
  fn_indent_level : FnAt K 100 fd_indent_level
  fn_equal : FnAt K 107 fd_equal
  fn_less : FnAt K 121 fd_less
  fn___init__ : FnAt K 86 fd___init__
  fn__law_mail : FnAt K 142 fd__law_mail
  fn__law_due : FnAt K 147 fd__law_due
  fn__law_column : FnAt K 152 fd__law_column
  fn_law : FnAt K 157 fd_law
  k_Whitespace : keepIn K (.ref 131) = true
  p__twin_re_1 : PatAt (fun b => K.lookup b) 50 code1
  p__twin_re_2 : PatAt (fun b => K.lookup b) 55 code2
  mkc : makesIn K 131 = true
  init : findIn K (.ref 131) "__init__" = some (some (.ref 86))
  initf : isFn K (.ref 86) = true
  r_cls : readsIn K 131 (.type "type") = true
  f_S : findCls K (.ref 131) (.type "type") "S" = some (.val (.str " " 390))
  f_T : findCls K (.ref 131) (.type "type") "T" = some (.val (.str "\t" 391))
  a_raw : AttrK K 131 "raw"
  s_raw : SetK K 131 "raw"
  a_n : AttrK K 131 "n"
  s_n : SetK K 131 "n"
  a_nt : AttrK K 131 "nt"
  s_nt : SetK K 131 "nt"
  a_norm : AttrK K 131 "norm"
  s_norm : SetK K 131 "norm"
  a_is_simple : AttrK K 131 "is_simple"
  s_is_simple : SetK K 131 "is_simple"
  m_longest_run_of_spaces : MethK K 131 "longest_run_of_spaces" 93
  m_indent_level : MethK K 131 "indent_level" 100
  m_equal : MethK K 131 "equal" 107
  m_less : MethK K 131 "less" 121
section
variable {prog : Program} {w : World} {H : View} {K : Frag} {mg mb : Str → Option Value}
theorem d_CRLF {H : View} : Rd H (.str [13, 10]) (.str "\r\n" 359) := rd_str.mpr ⟨359, rfl⟩
theorem ok__fix_eols (L : Addr) : EnvOk (callEnvC fd__fix_eols L 69) (locs ((["data"] : List Str) ++ ([] : List Str))) := .of rfl ⟨nm_loc (by kernel_rfl), trivial⟩ (by decide) (by decide) (locs_apart _)
noncomputable def s__fix_eols_0 : { f : St → Option Out // ∀ (prog : Program) (w : World) (H : View) (K : Frag) (mg mb : Str → Option Value), Home K H mg mb → Facts K → ∀ L : Addr, SOk prog w H 1 (callEnvC fd__fix_eols L 69) (locs ((["data"] : List Str) ++ ([] : List Str))) (stAt ((fnParts (item 9)).2.1) 0) f } := ⟨_, fun prog w H K mg mb hm FK L =>
  (S_ret (E_patSub (V_fn hm FK.g__twin_re_2) (FK.p__twin_re_2.mono hm.kh) finds2 (A_cons (E_global (V_fn hm FK.g_CRLF) d_CRLF) (A_cons (E_name (ok__fix_eols L) 0 rfl) A_nil)) (.cons (.cons .nil))))⟩
noncomputable def x__fix_eols : { f : St → Option Out // ∀ (prog : Program) (w : World) (H : View) (K : Frag) (mg mb : Str → Option Value), Home K H mg mb → Facts K → ∀ L : Addr, XOk prog w H 1 (callEnvC fd__fix_eols L 69) (locs ((["data"] : List Str) ++ ([] : List Str))) (fnParts (item 9)).2.1 f } := ⟨_, fun prog w H K mg mb hm FK L =>
  (X_cons (s__fix_eols_0.2 prog w H K mg mb hm FK L)
  X_nil)⟩
theorem D__fix_eols (hm : Home K H mg mb) (FK : Facts K) : DefOk H 69 fd__fix_eols (fnParts (item 9)).2.1 (["data"] : List Str) 1 (fun _ => locs ((["data"] : List Str) ++ ([] : List Str))) := DefOk.locals (["data"] : List Str) ([] : List Str) hm FK.fn__fix_eols rfl rfl rfl rfl rfl ok__fix_eols (by decide) (by decide)
theorem c__fix_eols (hm : Home K H mg mb) (FK : Facts K) : COk prog w H 2 (.ref 69) (callV 1 1 x__fix_eols.1) := C_def (D__fix_eols hm FK) (fun vs h => by
    match vs, h with
    | [v0], _ => rfl) (x__fix_eols.2 prog w H K mg mb hm FK)
theorem ok_quotedata (L : Addr) : EnvOk (callEnvC fd_quotedata L 62) (locs ((["data"] : List Str) ++ ([] : List Str))) := .of rfl ⟨nm_loc (by kernel_rfl), trivial⟩ (by decide) (by decide) (locs_apart _)
noncomputable def s_quotedata_0 : { f : St → Option Out // ∀ (prog : Program) (w : World) (H : View) (K : Frag) (mg mb : Str → Option Value), Home K H mg mb → Facts K → ∀ L : Addr, SOk prog w H 1 (callEnvC fd_quotedata L 62) (locs ((["data"] : List Str) ++ ([] : List Str))) (stAt ((fnParts (item 8)).2.1) 0) f } := ⟨_, fun prog w H K mg mb hm FK L =>
  (S_ret (E_patSub (V_fn hm FK.g__twin_re_1) (FK.p__twin_re_1.mono hm.kh) finds1 (A_cons E_str (A_cons (E_patSub (V_fn hm FK.g__twin_re_2) (FK.p__twin_re_2.mono hm.kh) finds2 (A_cons (E_global (V_fn hm FK.g_CRLF) d_CRLF) (A_cons (E_name (ok_quotedata L) 0 rfl) A_nil)) (.cons (.cons .nil))) A_nil)) (.cons (.cons .nil))))⟩
noncomputable def x_quotedata : { f : St → Option Out // ∀ (prog : Program) (w : World) (H : View) (K : Frag) (mg mb : Str → Option Value), Home K H mg mb → Facts K → ∀ L : Addr, XOk prog w H 1 (callEnvC fd_quotedata L 62) (locs ((["data"] : List Str) ++ ([] : List Str))) (fnParts (item 8)).2.1 f } := ⟨_, fun prog w H K mg mb hm FK L =>
  (X_cons (s_quotedata_0.2 prog w H K mg mb hm FK L)
  X_nil)⟩
theorem D_quotedata (hm : Home K H mg mb) (FK : Facts K) : DefOk H 62 fd_quotedata (fnParts (item 8)).2.1 (["data"] : List Str) 1 (fun _ => locs ((["data"] : List Str) ++ ([] : List Str))) := DefOk.locals (["data"] : List Str) ([] : List Str) hm FK.fn_quotedata rfl rfl rfl rfl rfl ok_quotedata (by decide) (by decide)
theorem c_quotedata (hm : Home K H mg mb) (FK : Facts K) : COk prog w H 2 (.ref 62) (callV 1 1 x_quotedata.1) := C_def (D_quotedata hm FK) (fun vs h => by
    match vs, h with
    | [v0], _ => rfl) (x_quotedata.2 prog w H K mg mb hm FK)
theorem ok_replace (L : Addr) : EnvOk (callEnvC fd_replace L 45) (locs ((["text", "pairs"] : List Str) ++ ([] : List Str))) := .of rfl ⟨nm_loc (by kernel_rfl), nm_loc (by kernel_rfl), trivial⟩ (by decide) (by decide) (locs_apart _)
noncomputable def s_replace_0 : { f : St → Option Out // ∀ (prog : Program) (w : World) (H : View) (K : Frag) (mg mb : Str → Option Value), Home K H mg mb → Facts K → ∀ L : Addr, SOk prog w H 1 (callEnvC fd_replace L 45) (locs ((["text", "pairs"] : List Str) ++ ([] : List Str))) (stAt ((fnParts (item 3)).2.1) 0) f } := ⟨_, fun prog w H K mg mb hm FK L =>
  (S_while 3 (T_tuple (E_name (ok_replace L) 1 rfl)) (X_cons (S_assign (x := "text") (ok_replace L) 0 rfl (by intro c h; cases h) (E_strMeth (E_idxT (E_name (ok_replace L) 1 rfl) E_int) GM_join C_join (A_cons (E_strMeth (E_name (ok_replace L) 0 rfl) GM_split C_split (A_cons (E_idxT (E_name (ok_replace L) 1 rfl) E_int) A_nil) (.cons .nil)) A_nil) (.cons .nil)))
  (X_cons (S_assign (x := "pairs") (ok_replace L) 1 rfl (by intro c h; cases h) (E_cutT (E_name (ok_replace L) 1 rfl) (by decide)))
  X_nil)))⟩
noncomputable def s_replace_1 : { f : St → Option Out // ∀ (prog : Program) (w : World) (H : View) (K : Frag) (mg mb : Str → Option Value), Home K H mg mb → Facts K → ∀ L : Addr, SOk prog w H 1 (callEnvC fd_replace L 45) (locs ((["text", "pairs"] : List Str) ++ ([] : List Str))) (stAt ((fnParts (item 3)).2.1) 1) f } := ⟨_, fun prog w H K mg mb hm FK L =>
  (S_ret (E_name (ok_replace L) 0 rfl))⟩
noncomputable def x_replace : { f : St → Option Out // ∀ (prog : Program) (w : World) (H : View) (K : Frag) (mg mb : Str → Option Value), Home K H mg mb → Facts K → ∀ L : Addr, XOk prog w H 1 (callEnvC fd_replace L 45) (locs ((["text", "pairs"] : List Str) ++ ([] : List Str))) (fnParts (item 3)).2.1 f } := ⟨_, fun prog w H K mg mb hm FK L =>
  (X_cons (s_replace_0.2 prog w H K mg mb hm FK L)
  (X_cons (s_replace_1.2 prog w H K mg mb hm FK L)
  X_nil))⟩
theorem D_replace (hm : Home K H mg mb) (FK : Facts K) : DefOk H 45 fd_replace (fnParts (item 3)).2.1 (["text", "pairs"] : List Str) 2 (fun _ => locs ((["text", "pairs"] : List Str) ++ ([] : List Str))) := DefOk.locals (["text", "pairs"] : List Str) ([] : List Str) hm FK.fn_replace rfl rfl rfl rfl rfl ok_replace (by decide) (by decide)
theorem c_replace (hm : Home K H mg mb) (FK : Facts K) : COk prog w H 2 (.ref 45) (fun ds => match ds with | d :: ds => if ds.length = 4 then callV 2 2 x_replace.1 [d, .tup ds] else none | [] => none) := C_star (D_replace hm FK) 4 (by rw [lim_eq]; decide) (fun v vs h => by
    match vs, h with
    | [v0, v1, v2, v3], _ => rfl) (x_replace.2 prog w H K mg mb hm FK)
theorem ok_longest_run_of_spaces (L : Addr) : EnvOk (callEnvC fd_longest_run_of_spaces L 93) (locs ((["self"] : List Str) ++ (["count", "trailing"] : List Str))) := .of rfl ⟨nm_loc (by kernel_rfl), nm_loc (by kernel_rfl), nm_loc (by kernel_rfl), trivial⟩ (by decide) (by decide) (locs_apart _)
noncomputable def s_longest_run_of_spaces_0 : { f : St → Option Out // ∀ (prog : Program) (w : World) (H : View) (K : Frag) (mg mb : Str → Option Value), Home K H mg mb → Facts K → ∀ L : Addr, SOk prog w H 1 (callEnvC fd_longest_run_of_spaces L 93) (locs ((["self"] : List Str) ++ (["count", "trailing"] : List Str))) (stAt ((fnParts (meth 2)).2.1) 0) f } := ⟨_, fun prog w H K mg mb hm FK L =>
  (S_unpack (is := [1, 2]) (by decide) (ok_longest_run_of_spaces L) ⟨⟨_, _, _, rfl, rfl, (by intro c h; cases h)⟩, ⟨_, _, _, rfl, rfl, (by intro c h; cases h)⟩, trivial⟩ (E_attr hm.kh FK.a_norm (E_name (ok_longest_run_of_spaces L) 0 rfl)))⟩
noncomputable def s_longest_run_of_spaces_1 : { f : St → Option Out // ∀ (prog : Program) (w : World) (H : View) (K : Frag) (mg mb : Str → Option Value), Home K H mg mb → Facts K → ∀ L : Addr, SOk prog w H 1 (callEnvC fd_longest_run_of_spaces L 93) (locs ((["self"] : List Str) ++ (["count", "trailing"] : List Str))) (stAt ((fnParts (meth 2)).2.1) 1) f } := ⟨_, fun prog w H K mg mb hm FK L =>
  (S_ret (E_callB (V_bi hm FK.b_max) C_max (A_cons (E_bin (by decide) B_sub (E_callB (V_bi hm FK.b_len) C_len (A_cons (E_name (ok_longest_run_of_spaces L) 1 rfl) A_nil) (.cons .nil)) E_int) (A_cons (E_name (ok_longest_run_of_spaces L) 2 rfl) A_nil)) (.cons (.cons .nil))))⟩
noncomputable def x_longest_run_of_spaces : { f : St → Option Out // ∀ (prog : Program) (w : World) (H : View) (K : Frag) (mg mb : Str → Option Value), Home K H mg mb → Facts K → ∀ L : Addr, XOk prog w H 1 (callEnvC fd_longest_run_of_spaces L 93) (locs ((["self"] : List Str) ++ (["count", "trailing"] : List Str))) (fnParts (meth 2)).2.1 f } := ⟨_, fun prog w H K mg mb hm FK L =>
  (X_cons (s_longest_run_of_spaces_0.2 prog w H K mg mb hm FK L)
  (X_cons (s_longest_run_of_spaces_1.2 prog w H K mg mb hm FK L)
  X_nil))⟩
theorem D_longest_run_of_spaces (hm : Home K H mg mb) (FK : Facts K) : DefOk H 93 fd_longest_run_of_spaces (fnParts (meth 2)).2.1 (["self"] : List Str) 3 (fun _ => locs ((["self"] : List Str) ++ (["count", "trailing"] : List Str))) := DefOk.locals (["self"] : List Str) (["count", "trailing"] : List Str) hm FK.fn_longest_run_of_spaces rfl rfl rfl rfl rfl ok_longest_run_of_spaces (by decide) (by decide)
theorem c_longest_run_of_spaces (hm : Home K H mg mb) (FK : Facts K) : COk prog w H 2 (.ref 93) (callV 1 3 x_longest_run_of_spaces.1) := C_def (D_longest_run_of_spaces hm FK) (fun vs h => by
    match vs, h with
    | [v0], _ => rfl) (x_longest_run_of_spaces.2 prog w H K mg mb hm FK)
theorem ok_indent_level (L : Addr) : EnvOk (callEnvC fd_indent_level L 100) (locs ((["self", "tabsize"] : List Str) ++ (["count", "trailing", "il", "i"] : List Str))) := .of rfl ⟨nm_loc (by kernel_rfl), nm_loc (by kernel_rfl), nm_loc (by kernel_rfl), nm_loc (by kernel_rfl), nm_loc (by kernel_rfl), nm_loc (by kernel_rfl), trivial⟩ (by decide) (by decide) (locs_apart _)
noncomputable def s_indent_level_0 : { f : St → Option Out // ∀ (prog : Program) (w : World) (H : View) (K : Frag) (mg mb : Str → Option Value), Home K H mg mb → Facts K → ∀ L : Addr, SOk prog w H 1 (callEnvC fd_indent_level L 100) (locs ((["self", "tabsize"] : List Str) ++ (["count", "trailing", "il", "i"] : List Str))) (stAt ((fnParts (meth 3)).2.1) 0) f } := ⟨_, fun prog w H K mg mb hm FK L =>
  (S_unpack (is := [2, 3]) (by decide) (ok_indent_level L) ⟨⟨_, _, _, rfl, rfl, (by intro c h; cases h)⟩, ⟨_, _, _, rfl, rfl, (by intro c h; cases h)⟩, trivial⟩ (E_attr hm.kh FK.a_norm (E_name (ok_indent_level L) 0 rfl)))⟩
noncomputable def s_indent_level_1 : { f : St → Option Out // ∀ (prog : Program) (w : World) (H : View) (K : Frag) (mg mb : Str → Option Value), Home K H mg mb → Facts K → ∀ L : Addr, SOk prog w H 1 (callEnvC fd_indent_level L 100) (locs ((["self", "tabsize"] : List Str) ++ (["count", "trailing", "il", "i"] : List Str))) (stAt ((fnParts (meth 3)).2.1) 1) f } := ⟨_, fun prog w H K mg mb hm FK L =>
  (S_assign (x := "il") (ok_indent_level L) 4 rfl (by intro c h; cases h) E_int)⟩
noncomputable def s_indent_level_2 : { f : St → Option Out // ∀ (prog : Program) (w : World) (H : View) (K : Frag) (mg mb : Str → Option Value), Home K H mg mb → Facts K → ∀ L : Addr, SOk prog w H 1 (callEnvC fd_indent_level L 100) (locs ((["self", "tabsize"] : List Str) ++ (["count", "trailing", "il", "i"] : List Str))) (stAt (forBody (stAt ((fnParts (meth 3)).2.1) 2)) 0) f } := ⟨_, fun prog w H K mg mb hm FK L =>
  (S_assign (x := "il") (ok_indent_level L) 4 rfl (by intro c h; cases h) (E_bin (by decide) B_add (E_name (ok_indent_level L) 4 rfl) (E_bin (by decide) B_mul (E_bin (by decide) B_fdiv (E_name (ok_indent_level L) 5 rfl) (E_name (ok_indent_level L) 1 rfl)) (E_idxT (E_name (ok_indent_level L) 2 rfl) (E_name (ok_indent_level L) 5 rfl)))))⟩
noncomputable def s_indent_level_3 : { f : St → Option Out // ∀ (prog : Program) (w : World) (H : View) (K : Frag) (mg mb : Str → Option Value), Home K H mg mb → Facts K → ∀ L : Addr, SOk prog w H 1 (callEnvC fd_indent_level L 100) (locs ((["self", "tabsize"] : List Str) ++ (["count", "trailing", "il", "i"] : List Str))) (stAt ((fnParts (meth 3)).2.1) 2) f } := ⟨_, fun prog w H K mg mb hm FK L =>
  (S_for (zip := false) (It_range (by decide) (V_bi hm FK.b_range) (A_cons (E_name (ok_indent_level L) 1 rfl) (A_cons (E_callB (V_bi hm FK.b_len) C_len (A_cons (E_name (ok_indent_level L) 2 rfl) A_nil) (.cons .nil)) A_nil)) (.cons (.cons .nil))) (Tg_name (ok_indent_level L) 5 rfl (by intro c h; cases h)) (X_cons (s_indent_level_2.2 prog w H K mg mb hm FK L)
  X_nil))⟩
noncomputable def s_indent_level_4 : { f : St → Option Out // ∀ (prog : Program) (w : World) (H : View) (K : Frag) (mg mb : Str → Option Value), Home K H mg mb → Facts K → ∀ L : Addr, SOk prog w H 1 (callEnvC fd_indent_level L 100) (locs ((["self", "tabsize"] : List Str) ++ (["count", "trailing", "il", "i"] : List Str))) (stAt ((fnParts (meth 3)).2.1) 3) f } := ⟨_, fun prog w H K mg mb hm FK L =>
  (S_ret (E_bin (by decide) B_add (E_name (ok_indent_level L) 3 rfl) (E_bin (by decide) B_mul (E_name (ok_indent_level L) 1 rfl) (E_bin (by decide) B_add (E_name (ok_indent_level L) 4 rfl) (E_attr hm.kh FK.a_nt (E_name (ok_indent_level L) 0 rfl))))))⟩
noncomputable def x_indent_level : { f : St → Option Out // ∀ (prog : Program) (w : World) (H : View) (K : Frag) (mg mb : Str → Option Value), Home K H mg mb → Facts K → ∀ L : Addr, XOk prog w H 1 (callEnvC fd_indent_level L 100) (locs ((["self", "tabsize"] : List Str) ++ (["count", "trailing", "il", "i"] : List Str))) (fnParts (meth 3)).2.1 f } := ⟨_, fun prog w H K mg mb hm FK L =>
  (X_cons (s_indent_level_0.2 prog w H K mg mb hm FK L)
  (X_cons (s_indent_level_1.2 prog w H K mg mb hm FK L)
  (X_cons (s_indent_level_3.2 prog w H K mg mb hm FK L)
  (X_cons (s_indent_level_4.2 prog w H K mg mb hm FK L)
  X_nil))))⟩
theorem D_indent_level (hm : Home K H mg mb) (FK : Facts K) : DefOk H 100 fd_indent_level (fnParts (meth 3)).2.1 (["self", "tabsize"] : List Str) 6 (fun _ => locs ((["self", "tabsize"] : List Str) ++ (["count", "trailing", "il", "i"] : List Str))) := DefOk.locals (["self", "tabsize"] : List Str) (["count", "trailing", "il", "i"] : List Str) hm FK.fn_indent_level rfl rfl rfl rfl rfl ok_indent_level (by decide) (by decide)
theorem c_indent_level (hm : Home K H mg mb) (FK : Facts K) : COk prog w H 2 (.ref 100) (callV 2 6 x_indent_level.1) := C_def (D_indent_level hm FK) (fun vs h => by
    match vs, h with
    | [v0, v1], _ => rfl) (x_indent_level.2 prog w H K mg mb hm FK)
theorem ok_equal (L : Addr) : EnvOk (callEnvC fd_equal L 107) (locs ((["self", "other"] : List Str) ++ ([] : List Str))) := .of rfl ⟨nm_loc (by kernel_rfl), nm_loc (by kernel_rfl), trivial⟩ (by decide) (by decide) (locs_apart _)
noncomputable def s_equal_0 : { f : St → Option Out // ∀ (prog : Program) (w : World) (H : View) (K : Frag) (mg mb : Str → Option Value), Home K H mg mb → Facts K → ∀ L : Addr, SOk prog w H 1 (callEnvC fd_equal L 107) (locs ((["self", "other"] : List Str) ++ ([] : List Str))) (stAt ((fnParts (meth 4)).2.1) 0) f } := ⟨_, fun prog w H K mg mb hm FK L =>
  (S_ret (E_cmp (by decide) C_eq (E_attr hm.kh FK.a_norm (E_name (ok_equal L) 0 rfl)) (E_attr hm.kh FK.a_norm (E_name (ok_equal L) 1 rfl))))⟩
noncomputable def x_equal : { f : St → Option Out // ∀ (prog : Program) (w : World) (H : View) (K : Frag) (mg mb : Str → Option Value), Home K H mg mb → Facts K → ∀ L : Addr, XOk prog w H 1 (callEnvC fd_equal L 107) (locs ((["self", "other"] : List Str) ++ ([] : List Str))) (fnParts (meth 4)).2.1 f } := ⟨_, fun prog w H K mg mb hm FK L =>
  (X_cons (s_equal_0.2 prog w H K mg mb hm FK L)
  X_nil)⟩
theorem D_equal (hm : Home K H mg mb) (FK : Facts K) : DefOk H 107 fd_equal (fnParts (meth 4)).2.1 (["self", "other"] : List Str) 2 (fun _ => locs ((["self", "other"] : List Str) ++ ([] : List Str))) := DefOk.locals (["self", "other"] : List Str) ([] : List Str) hm FK.fn_equal rfl rfl rfl rfl rfl ok_equal (by decide) (by decide)
theorem c_equal (hm : Home K H mg mb) (FK : Facts K) : COk prog w H 2 (.ref 107) (callV 2 2 x_equal.1) := C_def (D_equal hm FK) (fun vs h => by
    match vs, h with
    | [v0, v1], _ => rfl) (x_equal.2 prog w H K mg mb hm FK)
theorem ok_less (L : Addr) : EnvOk (callEnvC fd_less L 121) (locs ((["self", "other"] : List Str) ++ (["n", "ts"] : List Str))) := .of rfl ⟨nm_loc (by kernel_rfl), nm_loc (by kernel_rfl), nm_loc (by kernel_rfl), nm_loc (by kernel_rfl), trivial⟩ (by decide) (by decide) (locs_apart _)
noncomputable def s_less_0 : { f : St → Option Out // ∀ (prog : Program) (w : World) (H : View) (K : Frag) (mg mb : Str → Option Value), Home K H mg mb → Facts K → ∀ L : Addr, SOk prog w H 2 (callEnvC fd_less L 121) (locs ((["self", "other"] : List Str) ++ (["n", "ts"] : List Str))) (stAt ((fnParts (meth 6)).2.1) 0) f } := ⟨_, fun prog w H K mg mb hm FK L =>
  (S_if (T_cmp (by decide) C_ge (E_attr hm.kh FK.a_n (E_name (ok_less L) 0 rfl)) (E_attr hm.kh FK.a_n (E_name (ok_less L) 1 rfl))) (X_cons (S_ret E_bool)
  X_nil) X_nil)⟩
noncomputable def s_less_1 : { f : St → Option Out // ∀ (prog : Program) (w : World) (H : View) (K : Frag) (mg mb : Str → Option Value), Home K H mg mb → Facts K → ∀ L : Addr, SOk prog w H 2 (callEnvC fd_less L 121) (locs ((["self", "other"] : List Str) ++ (["n", "ts"] : List Str))) (stAt ((fnParts (meth 6)).2.1) 1) f } := ⟨_, fun prog w H K mg mb hm FK L =>
  (S_if (T_and (T_bool (E_attr hm.kh FK.a_is_simple (E_name (ok_less L) 0 rfl))) (T_bool (E_attr hm.kh FK.a_is_simple (E_name (ok_less L) 1 rfl)))) (X_cons (S_ret (E_cmp (by decide) C_le (E_attr hm.kh FK.a_nt (E_name (ok_less L) 0 rfl)) (E_attr hm.kh FK.a_nt (E_name (ok_less L) 1 rfl))))
  X_nil) X_nil)⟩
noncomputable def s_less_2 : { f : St → Option Out // ∀ (prog : Program) (w : World) (H : View) (K : Frag) (mg mb : Str → Option Value), Home K H mg mb → Facts K → ∀ L : Addr, SOk prog w H 2 (callEnvC fd_less L 121) (locs ((["self", "other"] : List Str) ++ (["n", "ts"] : List Str))) (stAt ((fnParts (meth 6)).2.1) 2) f } := ⟨_, fun prog w H K mg mb hm FK L =>
  (S_assign (x := "n") (ok_less L) 2 rfl (by intro c h; cases h) (E_bin (by decide) B_add (E_callB (V_bi hm FK.b_max) C_max (A_cons (E_instMethK hm.kh FK.m_longest_run_of_spaces (E_name (ok_less L) 0 rfl) FK.fn_longest_run_of_spaces.keep ((c_longest_run_of_spaces hm FK).up (by decide)) A_nil .nil) (A_cons (E_instMethK hm.kh FK.m_longest_run_of_spaces (E_name (ok_less L) 1 rfl) FK.fn_longest_run_of_spaces.keep ((c_longest_run_of_spaces hm FK).up (by decide)) A_nil .nil) A_nil)) (.cons (.cons .nil))) E_int))⟩
noncomputable def s_less_3 : { f : St → Option Out // ∀ (prog : Program) (w : World) (H : View) (K : Frag) (mg mb : Str → Option Value), Home K H mg mb → Facts K → ∀ L : Addr, SOk prog w H 2 (callEnvC fd_less L 121) (locs ((["self", "other"] : List Str) ++ (["n", "ts"] : List Str))) (stAt (forBody (stAt ((fnParts (meth 6)).2.1) 3)) 0) f } := ⟨_, fun prog w H K mg mb hm FK L =>
  (S_if (T_cmp (by decide) C_ge (E_instMethK hm.kh FK.m_indent_level (E_name (ok_less L) 0 rfl) FK.fn_indent_level.keep ((c_indent_level hm FK).up (by decide)) (A_cons (E_name (ok_less L) 3 rfl) A_nil) (.cons .nil)) (E_instMethK hm.kh FK.m_indent_level (E_name (ok_less L) 1 rfl) FK.fn_indent_level.keep ((c_indent_level hm FK).up (by decide)) (A_cons (E_name (ok_less L) 3 rfl) A_nil) (.cons .nil))) (X_cons (S_ret E_bool)
  X_nil) X_nil)⟩
noncomputable def s_less_4 : { f : St → Option Out // ∀ (prog : Program) (w : World) (H : View) (K : Frag) (mg mb : Str → Option Value), Home K H mg mb → Facts K → ∀ L : Addr, SOk prog w H 2 (callEnvC fd_less L 121) (locs ((["self", "other"] : List Str) ++ (["n", "ts"] : List Str))) (stAt ((fnParts (meth 6)).2.1) 3) f } := ⟨_, fun prog w H K mg mb hm FK L =>
  (S_for (zip := false) (It_range (by decide) (V_bi hm FK.b_range) (A_cons E_int (A_cons (E_bin (by decide) B_add (E_name (ok_less L) 2 rfl) E_int) A_nil)) (.cons (.cons .nil))) (Tg_name (ok_less L) 3 rfl (by intro c h; cases h)) (X_cons (s_less_3.2 prog w H K mg mb hm FK L)
  X_nil))⟩
noncomputable def s_less_5 : { f : St → Option Out // ∀ (prog : Program) (w : World) (H : View) (K : Frag) (mg mb : Str → Option Value), Home K H mg mb → Facts K → ∀ L : Addr, SOk prog w H 2 (callEnvC fd_less L 121) (locs ((["self", "other"] : List Str) ++ (["n", "ts"] : List Str))) (stAt ((fnParts (meth 6)).2.1) 4) f } := ⟨_, fun prog w H K mg mb hm FK L =>
  (S_ret E_bool)⟩
noncomputable def x_less : { f : St → Option Out // ∀ (prog : Program) (w : World) (H : View) (K : Frag) (mg mb : Str → Option Value), Home K H mg mb → Facts K → ∀ L : Addr, XOk prog w H 2 (callEnvC fd_less L 121) (locs ((["self", "other"] : List Str) ++ (["n", "ts"] : List Str))) (fnParts (meth 6)).2.1 f } := ⟨_, fun prog w H K mg mb hm FK L =>
  (X_cons (s_less_0.2 prog w H K mg mb hm FK L)
  (X_cons (s_less_1.2 prog w H K mg mb hm FK L)
  (X_cons (s_less_2.2 prog w H K mg mb hm FK L)
  (X_cons (s_less_4.2 prog w H K mg mb hm FK L)
  (X_cons (s_less_5.2 prog w H K mg mb hm FK L)
  X_nil)))))⟩
theorem D_less (hm : Home K H mg mb) (FK : Facts K) : DefOk H 121 fd_less (fnParts (meth 6)).2.1 (["self", "other"] : List Str) 4 (fun _ => locs ((["self", "other"] : List Str) ++ (["n", "ts"] : List Str))) := DefOk.locals (["self", "other"] : List Str) (["n", "ts"] : List Str) hm FK.fn_less rfl rfl rfl rfl rfl ok_less (by decide) (by decide)
theorem c_less (hm : Home K H mg mb) (FK : Facts K) : COk prog w H 3 (.ref 121) (callV 2 4 x_less.1) := C_def (D_less hm FK) (fun vs h => by
    match vs, h with
    | [v0, v1], _ => rfl) (x_less.2 prog w H K mg mb hm FK)
theorem ok___init__ (L : Addr) : EnvOk (callEnvC fd___init__ L 86) (locs ((["self", "ws"] : List Str) ++ (["S", "T", "count", "b", "n", "nt", "ch"] : List Str))) := .of rfl ⟨nm_loc (by kernel_rfl), nm_loc (by kernel_rfl), nm_loc (by kernel_rfl), nm_loc (by kernel_rfl), nm_loc (by kernel_rfl), nm_loc (by kernel_rfl), nm_loc (by kernel_rfl), nm_loc (by kernel_rfl), nm_loc (by kernel_rfl), trivial⟩ (by decide) (by decide) (locs_apart _)
noncomputable def s___init___0 : { f : St → Option Out // ∀ (prog : Program) (w : World) (H : View) (K : Frag) (mg mb : Str → Option Value), Home K H mg mb → Facts K → ∀ L : Addr, SOk prog w H 1 (callEnvC fd___init__ L 86) (locs ((["self", "ws"] : List Str) ++ (["S", "T", "count", "b", "n", "nt", "ch"] : List Str))) (stAt ((fnParts (meth 1)).2.1) 0) f } := ⟨_, fun prog w H K mg mb hm FK L =>
  (S_setattr hm.kh FK.s_raw (ok___init__ L) 0 rfl (E_name (ok___init__ L) 1 rfl))⟩
noncomputable def s___init___1 : { f : St → Option Out // ∀ (prog : Program) (w : World) (H : View) (K : Frag) (mg mb : Str → Option Value), Home K H mg mb → Facts K → ∀ L : Addr, SOk prog w H 1 (callEnvC fd___init__ L 86) (locs ((["self", "ws"] : List Str) ++ (["S", "T", "count", "b", "n", "nt", "ch"] : List Str))) (stAt ((fnParts (meth 1)).2.1) 1) f } := ⟨_, fun prog w H K mg mb hm FK L =>
  (S_swap2 (ok___init__ L) 2 3 rfl rfl (by intro c h; cases h) (by intro c h; cases h) (E_tuple (A_cons (E_clsAttr hm.kh (V_fn hm FK.g_Whitespace) FK.r_cls FK.f_S (rd_str.mpr ⟨_, rfl⟩)) (A_cons (E_clsAttr hm.kh (V_fn hm FK.g_Whitespace) FK.r_cls FK.f_T (rd_str.mpr ⟨_, rfl⟩)) A_nil))))⟩
noncomputable def s___init___2 : { f : St → Option Out // ∀ (prog : Program) (w : World) (H : View) (K : Frag) (mg mb : Str → Option Value), Home K H mg mb → Facts K → ∀ L : Addr, SOk prog w H 1 (callEnvC fd___init__ L 86) (locs ((["self", "ws"] : List Str) ++ (["S", "T", "count", "b", "n", "nt", "ch"] : List Str))) (stAt ((fnParts (meth 1)).2.1) 2) f } := ⟨_, fun prog w H K mg mb hm FK L =>
  (S_assign_own (x := "count") (ok___init__ L) 4 rfl (L_list A_nil))⟩
noncomputable def s___init___3 : { f : St → Option Out // ∀ (prog : Program) (w : World) (H : View) (K : Frag) (mg mb : Str → Option Value), Home K H mg mb → Facts K → ∀ L : Addr, SOk prog w H 1 (callEnvC fd___init__ L 86) (locs ((["self", "ws"] : List Str) ++ (["S", "T", "count", "b", "n", "nt", "ch"] : List Str))) (stAt ((fnParts (meth 1)).2.1) 3) f } := ⟨_, fun prog w H K mg mb hm FK L =>
  (S_assign3 (ok___init__ L) 5 6 7 rfl rfl rfl (by intro c h; cases h) (by intro c h; cases h) (by intro c h; cases h) E_int)⟩
noncomputable def s___init___4 : { f : St → Option Out // ∀ (prog : Program) (w : World) (H : View) (K : Frag) (mg mb : Str → Option Value), Home K H mg mb → Facts K → ∀ L : Addr, SOk prog w H 1 (callEnvC fd___init__ L 86) (locs ((["self", "ws"] : List Str) ++ (["S", "T", "count", "b", "n", "nt", "ch"] : List Str))) (stAt (forBody (stAt ((fnParts (meth 1)).2.1) 4)) 0) f } := ⟨_, fun prog w H K mg mb hm FK L =>
  (S_if (T_cmp (by decide) C_eq (E_name (ok___init__ L) 8 rfl) (E_name (ok___init__ L) 2 rfl)) (X_cons (S_assign (x := "n") (ok___init__ L) 6 rfl (by intro c h; cases h) (E_bin (by decide) B_add (E_name (ok___init__ L) 6 rfl) E_int))
  (X_cons (S_assign (x := "b") (ok___init__ L) 5 rfl (by intro c h; cases h) (E_bin (by decide) B_add (E_name (ok___init__ L) 5 rfl) E_int))
  X_nil)) (X_cons (S_if (T_cmp (by decide) C_eq (E_name (ok___init__ L) 8 rfl) (E_name (ok___init__ L) 3 rfl)) (X_cons (S_assign (x := "n") (ok___init__ L) 6 rfl (by intro c h; cases h) (E_bin (by decide) B_add (E_name (ok___init__ L) 6 rfl) E_int))
  (X_cons (S_assign (x := "nt") (ok___init__ L) 7 rfl (by intro c h; cases h) (E_bin (by decide) B_add (E_name (ok___init__ L) 7 rfl) E_int))
  (X_cons (S_if (T_cmp (by decide) C_ge (E_name (ok___init__ L) 5 rfl) (E_len (V_bi hm FK.b_len) (P_name (ok___init__ L) 4 rfl) (.cons .nil))) (X_cons (S_assign_own (x := "count") (ok___init__ L) 4 rfl (L_add (P_name (ok___init__ L) 4 rfl) (P_val (E_bin (by decide) B_mul (E_new (L_list (A_cons E_int A_nil))) (E_bin (by decide) B_add (E_bin (by decide) B_sub (E_name (ok___init__ L) 5 rfl) (E_len (V_bi hm FK.b_len) (P_name (ok___init__ L) 4 rfl) (.cons .nil))) E_int)))))
  X_nil) X_nil)
  (X_cons (S_setitem (ok___init__ L) 4 rfl (E_bin (by decide) B_add (E_idx (P_name (ok___init__ L) 4 rfl) (E_name (ok___init__ L) 5 rfl)) E_int) (E_name (ok___init__ L) 5 rfl))
  (X_cons (S_assign (x := "b") (ok___init__ L) 5 rfl (by intro c h; cases h) E_int)
  X_nil))))) (X_cons S_break
  X_nil))
  X_nil))⟩
noncomputable def s___init___5 : { f : St → Option Out // ∀ (prog : Program) (w : World) (H : View) (K : Frag) (mg mb : Str → Option Value), Home K H mg mb → Facts K → ∀ L : Addr, SOk prog w H 1 (callEnvC fd___init__ L 86) (locs ((["self", "ws"] : List Str) ++ (["S", "T", "count", "b", "n", "nt", "ch"] : List Str))) (stAt ((fnParts (meth 1)).2.1) 4) f } := ⟨_, fun prog w H K mg mb hm FK L =>
  (S_for (zip := false) (It_str (E_attrSelf hm.kh FK.a_raw (ok___init__ L) 0 rfl) (by decide)) (Tg_name (ok___init__ L) 8 rfl (by intro c h; cases h)) (X_cons (s___init___4.2 prog w H K mg mb hm FK L)
  X_nil))⟩
noncomputable def s___init___6 : { f : St → Option Out // ∀ (prog : Program) (w : World) (H : View) (K : Frag) (mg mb : Str → Option Value), Home K H mg mb → Facts K → ∀ L : Addr, SOk prog w H 1 (callEnvC fd___init__ L 86) (locs ((["self", "ws"] : List Str) ++ (["S", "T", "count", "b", "n", "nt", "ch"] : List Str))) (stAt ((fnParts (meth 1)).2.1) 5) f } := ⟨_, fun prog w H K mg mb hm FK L =>
  (S_setattr hm.kh FK.s_n (ok___init__ L) 0 rfl (E_name (ok___init__ L) 6 rfl))⟩
noncomputable def s___init___7 : { f : St → Option Out // ∀ (prog : Program) (w : World) (H : View) (K : Frag) (mg mb : Str → Option Value), Home K H mg mb → Facts K → ∀ L : Addr, SOk prog w H 1 (callEnvC fd___init__ L 86) (locs ((["self", "ws"] : List Str) ++ (["S", "T", "count", "b", "n", "nt", "ch"] : List Str))) (stAt ((fnParts (meth 1)).2.1) 6) f } := ⟨_, fun prog w H K mg mb hm FK L =>
  (S_setattr hm.kh FK.s_nt (ok___init__ L) 0 rfl (E_name (ok___init__ L) 7 rfl))⟩
noncomputable def s___init___8 : { f : St → Option Out // ∀ (prog : Program) (w : World) (H : View) (K : Frag) (mg mb : Str → Option Value), Home K H mg mb → Facts K → ∀ L : Addr, SOk prog w H 1 (callEnvC fd___init__ L 86) (locs ((["self", "ws"] : List Str) ++ (["S", "T", "count", "b", "n", "nt", "ch"] : List Str))) (stAt ((fnParts (meth 1)).2.1) 7) f } := ⟨_, fun prog w H K mg mb hm FK L =>
  (S_setattr hm.kh FK.s_norm (ok___init__ L) 0 rfl (E_tuple (A_cons (E_tupleOf (V_bi hm FK.b_tuple) (P_name (ok___init__ L) 4 rfl) (.cons .nil)) (A_cons (E_name (ok___init__ L) 5 rfl) A_nil))))⟩
noncomputable def s___init___9 : { f : St → Option Out // ∀ (prog : Program) (w : World) (H : View) (K : Frag) (mg mb : Str → Option Value), Home K H mg mb → Facts K → ∀ L : Addr, SOk prog w H 1 (callEnvC fd___init__ L 86) (locs ((["self", "ws"] : List Str) ++ (["S", "T", "count", "b", "n", "nt", "ch"] : List Str))) (stAt ((fnParts (meth 1)).2.1) 8) f } := ⟨_, fun prog w H K mg mb hm FK L =>
  (S_setattr hm.kh FK.s_is_simple (ok___init__ L) 0 rfl (E_cmp (by decide) C_le (E_len (V_bi hm FK.b_len) (P_name (ok___init__ L) 4 rfl) (.cons .nil)) E_int))⟩
noncomputable def x___init__ : { f : St → Option Out // ∀ (prog : Program) (w : World) (H : View) (K : Frag) (mg mb : Str → Option Value), Home K H mg mb → Facts K → ∀ L : Addr, XOk prog w H 1 (callEnvC fd___init__ L 86) (locs ((["self", "ws"] : List Str) ++ (["S", "T", "count", "b", "n", "nt", "ch"] : List Str))) (fnParts (meth 1)).2.1 f } := ⟨_, fun prog w H K mg mb hm FK L =>
  (X_cons (s___init___0.2 prog w H K mg mb hm FK L)
  (X_cons (s___init___1.2 prog w H K mg mb hm FK L)
  (X_cons (s___init___2.2 prog w H K mg mb hm FK L)
  (X_cons (s___init___3.2 prog w H K mg mb hm FK L)
  (X_cons (s___init___5.2 prog w H K mg mb hm FK L)
  (X_cons (s___init___6.2 prog w H K mg mb hm FK L)
  (X_cons (s___init___7.2 prog w H K mg mb hm FK L)
  (X_cons (s___init___8.2 prog w H K mg mb hm FK L)
  (X_cons (s___init___9.2 prog w H K mg mb hm FK L)
  X_nil)))))))))⟩
theorem D___init__ (hm : Home K H mg mb) (FK : Facts K) : DefOk H 86 fd___init__ (fnParts (meth 1)).2.1 (["self", "ws"] : List Str) 9 (fun _ => locs ((["self", "ws"] : List Str) ++ (["S", "T", "count", "b", "n", "nt", "ch"] : List Str))) := DefOk.locals (["self", "ws"] : List Str) (["S", "T", "count", "b", "n", "nt", "ch"] : List Str) hm FK.fn___init__ rfl rfl rfl rfl rfl ok___init__ (by decide) (by decide)
end
noncomputable def bump (cnt : List Int) (b : Nat) : List Int :=
  let c := if b ≥ cnt.length then cnt ++ List.replicate (b - cnt.length + 1) 0 else cnt
  c.set b (c.getD b 0 + 1)
noncomputable def wsRun : List Nat → List Int × Nat × Nat × Nat → List Int × Nat × Nat × Nat
  | [], st => st
  | c :: cs, (cnt, b, n, nt) => if c = 32 then wsRun cs (cnt, b + 1, n + 1, nt) else if c = 9 then wsRun cs (bump cnt b, 0, n + 1, nt + 1) else (cnt, b, n, nt)
noncomputable def wsSt (slf w : Slot) (cnt : List Int) (b n nt : Nat) (ch : Slot) : St := [slf, w, .val (.str [32]), .val (.str [9]), .own (cnt.map .int), .val (.int b), .val (.int n), .val (.int nt), ch]
section
variable {slf w : Slot} {cnt : List Int} {b n nt c : Nat}
theorem step_sp : s___init___4.1 (wsSt slf w cnt b n nt (.val (.str [32]))) = some (.next (wsSt slf w cnt (b + 1) (n + 1) nt (.val (.str [32])))) := by rfl
theorem step_stop (h1 : c ≠ 32) (h2 : c ≠ 9) : s___init___4.1 (wsSt slf w cnt b n nt (.val (.str [c]))) = some (.brk (wsSt slf w cnt b n nt (.val (.str [c])))) := by
  have e1 : opf eqV (getv 8) (getv 2) (wsSt slf w cnt b n nt (.val (.str [c]))) = some (decide ([c] = [32])) := rfl
  have e2 : opf eqV (getv 8) (getv 3) (wsSt slf w cnt b n nt (.val (.str [c]))) = some (decide ([c] = [9])) := rfl
  unfold s___init___4
  dsimp only
  rw [e1, decide_eq_false (by simpa using h1)]
  dsimp only [seqf]
  rw [e2, decide_eq_false (by simpa using h2)]
theorem bump_len (cnt : List Int) (b : Nat) : (bump cnt b).length = max cnt.length (b + 1) := by
  unfold bump
  by_cases h : b ≥ cnt.length
  · simp [h]; omega
  · simp [h]; omega
theorem rep_one_list {α : Type} (n : Nat) (x : α) : rep n [x] = List.replicate n x := by
  induction n with
  | zero => simp [rep]
  | succ n ih =>
    have e : rep (n + 1) [x] = [x] ++ rep n [x] := by simp [rep, List.replicate_succ]
    rw [e, ih]; rfl
theorem tab_facts {b l : Nat} (hb : b < lim) (hc : l ≤ lim) (h : b ≥ l) : 1 ≤ lim ∧ -big < (b : Int) - (l : Int) + 1 ∧ (b : Int) - (l : Int) + 1 < big ∧ b - l + 1 ≤ lim ∧ l + (b - l + 1) ≤ lim ∧ (b : Int) < big ∧ (b : Int) < (l : Int) + ((b : Int) - (l : Int) + 1) ∧ ((b : Int) - (l : Int) + 1).toNat = b - l + 1 ∧ b < l + (b - l + 1) := by
  rw [lim_eq] at hb hc ⊢
  rw [big_eq]
  refine ⟨by omega, by omega, by omega, by omega, by omega, by omega, by omega, by omega, by omega⟩
theorem tab_small {b : Nat} (hb : b < lim) : (b : Int) < big := by
  rw [lim_eq] at hb; rw [big_eq]; omega
theorem tab_at {α : Type} (l : List α) (x : α) {b : Nat} (h : b ≥ l.length) : (l ++ List.replicate (b - l.length + 1) x)[b]? = some x := by
  rw [List.getElem?_append_right h, List.getElem?_replicate, if_pos (by omega)]
theorem step_tab (hb : b < lim) (hc : cnt.length ≤ lim) : s___init___4.1 (wsSt slf w cnt b n nt (.val (.str [9]))) = some (.next (wsSt slf w (bump cnt b) 0 (n + 1) (nt + 1) (.val (.str [9])))) := by
  have e1 : opf eqV (getv 8) (getv 2) (wsSt slf w cnt b n nt (.val (.str [9]))) = some false := rfl
  have e2 : opf eqV (getv 8) (getv 3) (wsSt slf w cnt b n nt (.val (.str [9]))) = some true := rfl
  unfold s___init___4
  dsimp only
  rw [e1]
  dsimp only
  unfold seqf
  dsimp only
  rw [e2]
  dsimp only
  clear e1 e2
  by_cases h : b ≥ cnt.length
  · obtain ⟨h1, h2, h3, h4, h5, h6, h7, hn, h9⟩ := tab_facts hb hc h
    have h8 : (cnt.map PV.int ++ List.replicate (b - cnt.length + 1) (PV.int 0))[b]? = some (PV.int 0) := by
      have := tab_at (cnt.map PV.int) (PV.int 0) (b := b) (by simpa using h)
      simpa using this
    have h10 := tab_at cnt 0 h
    have h11 : (b : Int) < (cnt.length : Int) + (((b - cnt.length : Nat) : Int) + 1) := by omega
    simp [wsSt, opf, getv, getl, geV, addV, subV, mulV, addl, idxf, idxV, consf, asList, hc, h, small, hn, rep_one_list, bump, h1, h2, h3, h4, h5, h6, h8, h9, h10, h11]
  · have h6 := tab_small hb
    have h7 : b < cnt.length := by omega
    simp [wsSt, opf, getv, getl, geV, addV, addl, idxf, idxV, consf, asList, hc, h, small, bump, h6, h7]
theorem bump_le (hb : b < lim) (hc : cnt.length ≤ lim) : (bump cnt b).length ≤ lim := by rw [bump_len]; omega
theorem ws_loop (slf w : Slot) : ∀ (cs : List Nat) (cnt : List Int) (b n nt : Nat) (ch : Slot), b + cs.length < lim → cnt.length ≤ lim → ∃ ch', (ch.isSelf = false → ch'.isSelf = false) ∧ forV (fun σ d => some (List.set σ 8 (Slot.val d))) (seqf s___init___4.val fun σ => some (Out.next σ)) (wsSt slf w cnt b n nt ch) (cs.map fun c => .str [c]) =
    some (.next (wsSt slf w (wsRun cs (cnt, b, n, nt)).1 (wsRun cs (cnt, b, n, nt)).2.1 (wsRun cs (cnt, b, n, nt)).2.2.1 (wsRun cs (cnt, b, n, nt)).2.2.2 ch'))
  | [], cnt, b, n, nt, ch, _, _ => ⟨ch, id, rfl⟩
  | c :: cs, cnt, b, n, nt, ch, hb, hc => by
    have hset : List.set (wsSt slf w cnt b n nt ch) 8 (Slot.val (.str [c])) = wsSt slf w cnt b n nt (.val (.str [c])) := rfl
    rw [List.map_cons, forV]
    dsimp only
    rw [hset]
    simp only [List.length_cons] at hb
    by_cases h1 : c = 32
    · subst h1
      obtain ⟨ch', hh, e⟩ := ws_loop slf w cs cnt (b + 1) (n + 1) nt (.val (.str [32])) (by omega) hc
      refine ⟨ch', fun _ => hh rfl, ?_⟩
      have hs : seqf s___init___4.val (fun σ => some (Out.next σ)) (wsSt slf w cnt b n nt (.val (.str [32]))) = some (.next (wsSt slf w cnt (b + 1) (n + 1) nt (.val (.str [32])))) := by
        unfold seqf; rw [step_sp]
      rw [hs]
      dsimp only
      rw [e, wsRun, if_pos rfl]
    · by_cases h2 : c = 9
      · subst h2
        obtain ⟨ch', hh, e⟩ := ws_loop slf w cs (bump cnt b) 0 (n + 1) (nt + 1) (.val (.str [9])) (by omega) (bump_le (by omega) hc)
        refine ⟨ch', fun _ => hh rfl, ?_⟩
        have hs : seqf s___init___4.val (fun σ => some (Out.next σ)) (wsSt slf w cnt b n nt (.val (.str [9]))) = some (.next (wsSt slf w (bump cnt b) 0 (n + 1) (nt + 1) (.val (.str [9])))) := by
          unfold seqf; rw [step_tab (by omega) hc]
        rw [hs]
        dsimp only
        rw [e, wsRun, if_neg h1, if_pos rfl]
      · refine ⟨.val (.str [c]), fun _ => rfl, ?_⟩
        have hs : seqf s___init___4.val (fun σ => some (Out.next σ)) (wsSt slf w cnt b n nt (.val (.str [c]))) = some (.brk (wsSt slf w cnt b n nt (.val (.str [c])))) := by
          unfold seqf; rw [step_stop h1 h2]
        rw [hs]
        dsimp only
        rw [wsRun, if_neg h1, if_neg h2]
end
noncomputable def slf0 (a0 : Addr) (ws : List Nat) : Slot := .self a0 131 ["raw"] [.str ws]
theorem i0 (a0 : Addr) (ws : List Nat) : s___init___0.1 (Slot.self a0 131 [] [] :: Slot.val (.str ws) :: List.replicate 7 Slot.empty) = some (.next (slf0 a0 ws :: Slot.val (.str ws) :: List.replicate 7 Slot.empty)) := by
  unfold s___init___0
  simp [getv, setSelf, slf0, Slot.isSelf, List.replicate]
theorem i1 (s0 s1 : Slot) : s___init___1.1 (s0 :: s1 :: List.replicate 7 Slot.empty) = some (.next (s0 :: s1 :: .val (.str [32]) :: .val (.str [9]) :: List.replicate 5 Slot.empty)) := by
  have h : 2 ≤ lim := by rw [lim_eq]; decide
  unfold s___init___1
  simp [consf, h, List.replicate]
  exact ⟨by decide +kernel, by decide +kernel⟩
theorem i2 (s0 s1 : Slot) : s___init___2.1 (s0 :: s1 :: .val (.str [32]) :: .val (.str [9]) :: List.replicate 5 Slot.empty) = some (.next (s0 :: s1 :: .val (.str [32]) :: .val (.str [9]) :: .own [] :: List.replicate 4 Slot.empty)) := by
  have h : 0 ≤ lim := Nat.zero_le _
  unfold s___init___2
  simp [h, List.replicate]
theorem i3 (s0 s1 : Slot) : s___init___3.1 (s0 :: s1 :: .val (.str [32]) :: .val (.str [9]) :: .own [] :: List.replicate 4 Slot.empty) = some (.next (wsSt s0 s1 [] 0 0 0 .empty)) := by
  unfold s___init___3
  simp [List.replicate, wsSt]
theorem i5 (a0 : Addr) (ws : List Nat) (hw : ws.length < lim) : ∃ ch', ch'.isSelf = false ∧ s___init___5.1 (wsSt (slf0 a0 ws) (.val (.str ws)) [] 0 0 0 .empty) = some (.next (wsSt (slf0 a0 ws) (.val (.str ws)) (wsRun ws ([], 0, 0, 0)).1 (wsRun ws ([], 0, 0, 0)).2.1 (wsRun ws ([], 0, 0, 0)).2.2.1 (wsRun ws ([], 0, 0, 0)).2.2.2 ch')) := by
  obtain ⟨ch', hh, e⟩ := ws_loop (slf0 a0 ws) (.val (.str ws)) ws [] 0 0 0 .empty (by omega) (Nat.zero_le _)
  refine ⟨ch', hh rfl, ?_⟩
  unfold s___init___5
  have hs : (selfAttr 0 131 "raw" (wsSt (slf0 a0 ws) (.val (.str ws)) [] 0 0 0 .empty)).bind signs = some (ws.map fun c => .str [c]) := by
    simp [selfAttr, wsSt, slf0, attrV, signs]
  show ((selfAttr 0 131 "raw" (wsSt (slf0 a0 ws) (.val (.str ws)) [] 0 0 0 .empty)).bind signs).bind _ = _
  rw [hs]
  exact e
theorem i69 (a0 : Addr) (ws : List Nat) (cnt : List Int) (b n nt : Nat) (ch : Slot) (hc : cnt.length ≤ lim) (hch : ch.isSelf = false) :
    (seqf s___init___6.1 (seqf s___init___7.1 (seqf s___init___8.1 (seqf s___init___9.1 fun σ => some (.next σ))))) (wsSt (slf0 a0 ws) (.val (.str ws)) cnt b n nt ch) =
    some (.next (wsSt (.self a0 131 ["raw", "n", "nt", "norm", "is_simple"] [.str ws, .int n, .int nt, .tup [.tup (cnt.map .int), .int b], .bool (decide (cnt.length ≤ 1))]) (.val (.str ws)) cnt b n nt ch)) := by
  have h2 : 2 ≤ lim := by rw [lim_eq]; decide
  have q1 : ("n" : Str) ≠ "raw" := by decide
  have q2 : ("nt" : Str) ≠ "raw" := by decide
  have q3 : ("nt" : Str) ≠ "n" := by decide
  have q4 : ("norm" : Str) ≠ "raw" := by decide
  have q5 : ("norm" : Str) ≠ "n" := by decide
  have q6 : ("norm" : Str) ≠ "nt" := by decide
  have q7 : ("is_simple" : Str) ≠ "raw" := by decide
  have q8 : ("is_simple" : Str) ≠ "n" := by decide
  have q9 : ("is_simple" : Str) ≠ "nt" := by decide
  have q10 : ("is_simple" : Str) ≠ "norm" := by decide
  have z : ∀ (d : PV), (Slot.val d).isSelf = false := fun _ => rfl
  have z2 : ∀ (d : List PV), (Slot.own d).isSelf = false := fun _ => rfl
  have z3 : (Slot.empty).isSelf = false := rfl
  unfold seqf s___init___6 s___init___7 s___init___8 s___init___9
  simp [seqf, getv, getl, setSelf, slf0, wsSt, consf, opf, leV, hc, h2, hch, q1, q2, q3, q4, q5, q6, q7, q8, q9, q10, z, z2, z3]
  omega
theorem seq_next {fs fr : St → Option Out} {σ σ' : St} (h : fs σ = some (.next σ')) : seqf fs fr σ = fr σ' := by unfold seqf; rw [h]
noncomputable def wsOf (ws : List Nat) : List Int × Nat × Nat × Nat := wsRun ws ([], 0, 0, 0)
noncomputable def wsVals (ws : List Nat) : List PV := [.str ws, .int (wsOf ws).2.2.1, .int (wsOf ws).2.2.2, .tup [.tup ((wsOf ws).1.map .int), .int (wsOf ws).2.1], .bool (decide ((wsOf ws).1.length ≤ 1))]
theorem wsRun_len : ∀ (cs : List Nat) (cnt : List Int) (b n nt : Nat), b + cs.length < lim → cnt.length ≤ lim → (wsRun cs (cnt, b, n, nt)).1.length ≤ lim
  | [], cnt, b, n, nt, _, h => h
  | c :: cs, cnt, b, n, nt, hb, h => by
    simp only [List.length_cons] at hb
    rw [wsRun]
    split
    · exact wsRun_len cs _ _ _ _ (by omega) h
    · split
      · exact wsRun_len cs _ _ _ _ (by omega) (bump_le (by omega) h)
      · exact h
theorem init_ok (a0 : Addr) (ws : List Nat) (hw : ws.length < lim) : ∃ σ', x___init__.1 (Slot.self a0 131 [] [] :: Slot.val (.str ws) :: List.replicate 7 Slot.empty) = some (.next σ') ∧ σ'[0]? = some (.self a0 131 ["raw", "n", "nt", "norm", "is_simple"] (wsVals ws)) := by
  obtain ⟨ch', hch, e5⟩ := i5 a0 ws hw
  have e6 := i69 a0 ws _ (wsRun ws ([], 0, 0, 0)).2.1 (wsRun ws ([], 0, 0, 0)).2.2.1 (wsRun ws ([], 0, 0, 0)).2.2.2 ch' (wsRun_len ws [] 0 0 0 (by omega) (Nat.zero_le _)) hch
  have e : x___init__.1 (Slot.self a0 131 [] [] :: Slot.val (.str ws) :: List.replicate 7 Slot.empty) = some (.next (wsSt (.self a0 131 ["raw", "n", "nt", "norm", "is_simple"] (wsVals ws)) (.val (.str ws)) (wsRun ws ([], 0, 0, 0)).1 (wsRun ws ([], 0, 0, 0)).2.1 (wsRun ws ([], 0, 0, 0)).2.2.1 (wsRun ws ([], 0, 0, 0)).2.2.2 ch')) := by
    unfold x___init__
    dsimp only
    rw [seq_next (i0 a0 ws), seq_next (i1 _ _), seq_next (i2 _ _), seq_next (i3 _ _), seq_next e5]
    exact e6
  exact ⟨_, e, rfl⟩
section
variable {prog : Program} {w : World} {H : View} {K : Frag} {mg mb : Str → Option Value}
noncomputable def V_Whitespace (ds : List PV) : Option PV := match ds with
  | [.str ws] => if ws.length < lim then some (.inst 131 ["raw", "n", "nt", "norm", "is_simple"] (wsVals ws)) else none
  | _ => none
theorem c_Whitespace (hm : Home K H mg mb) (FK : Facts K) : COk prog w H 3 (.ref 131) V_Whitespace :=
  C_class hm.kh FK.mkc FK.init FK.initf (D___init__ hm FK) (fun vs h => by
    match vs, h with
    | [v0, v1], _ => rfl) (fun L => ⟨0, .loc, _, rfl, rfl⟩) (by decide) (x___init__.2 prog w H K mg mb hm FK) (fun ds d e => by
    unfold V_Whitespace at e
    split at e
    · rename_i ws
      split at e
      · rename_i hw
        cases e
        exact ⟨_, _, _, rfl, rfl, fun a0 => init_ok a0 ws hw⟩
      · cases e
    · cases e)

theorem ok__law_mail (L : Addr) : EnvOk (callEnvC fd__law_mail L 142) (locs ((["acts"] : List Str) ++ (["mail", "kind", "ahead", "end"] : List Str))) := .of rfl ⟨nm_loc (by kernel_rfl), nm_loc (by kernel_rfl), nm_loc (by kernel_rfl), nm_loc (by kernel_rfl), nm_loc (by kernel_rfl), trivial⟩ (by decide) (by decide) (locs_apart _)
noncomputable def s__law_mail_0 : { f : St → Option Out // ∀ (prog : Program) (w : World) (H : View) (K : Frag) (mg mb : Str → Option Value), Home K H mg mb → Facts K → ∀ L : Addr, SOk prog w H 2 (callEnvC fd__law_mail L 142) (locs ((["acts"] : List Str) ++ (["mail", "kind", "ahead", "end"] : List Str))) (stAt ((fnParts (item 13)).2.1) 0) f } := ⟨_, fun prog w H K mg mb hm FK L =>
  (S_assign (x := "mail") (ok__law_mail L) 1 rfl (by intro c h; cases h) E_str)⟩
noncomputable def s__law_mail_1 : { f : St → Option Out // ∀ (prog : Program) (w : World) (H : View) (K : Frag) (mg mb : Str → Option Value), Home K H mg mb → Facts K → ∀ L : Addr, SOk prog w H 2 (callEnvC fd__law_mail L 142) (locs ((["acts"] : List Str) ++ (["mail", "kind", "ahead", "end"] : List Str))) (stAt (forBody (stAt ((fnParts (item 13)).2.1) 1)) 0) f } := ⟨_, fun prog w H K mg mb hm FK L =>
  (S_if (T_cmp (by decide) C_eq (E_name (ok__law_mail L) 2 rfl) E_int) (X_cons (S_assign (x := "mail") (ok__law_mail L) 1 rfl (by intro c h; cases h) (E_callK hm (V_fn hm FK.g_quotedata) FK.fn_quotedata.keep ((c_quotedata hm FK).up (by decide)) (A_cons (E_name (ok__law_mail L) 1 rfl) A_nil) (.cons .nil)))
  X_nil) (X_cons (S_if (T_cmp (by decide) C_eq (E_name (ok__law_mail L) 3 rfl) E_int) (X_cons (S_assign (x := "mail") (ok__law_mail L) 1 rfl (by intro c h; cases h) (E_bin (by decide) B_add (E_bin (by decide) B_add E_str (E_name (ok__law_mail L) 4 rfl)) (E_name (ok__law_mail L) 1 rfl)))
  X_nil) (X_cons (S_assign (x := "mail") (ok__law_mail L) 1 rfl (by intro c h; cases h) (E_bin (by decide) B_add (E_bin (by decide) B_add (E_name (ok__law_mail L) 1 rfl) E_str) (E_name (ok__law_mail L) 4 rfl)))
  X_nil))
  X_nil))⟩
noncomputable def s__law_mail_2 : { f : St → Option Out // ∀ (prog : Program) (w : World) (H : View) (K : Frag) (mg mb : Str → Option Value), Home K H mg mb → Facts K → ∀ L : Addr, SOk prog w H 2 (callEnvC fd__law_mail L 142) (locs ((["acts"] : List Str) ++ (["mail", "kind", "ahead", "end"] : List Str))) (stAt ((fnParts (item 13)).2.1) 1) f } := ⟨_, fun prog w H K mg mb hm FK L =>
  (S_for (zip := false) (It_list (E_name (ok__law_mail L) 0 rfl) (by decide)) (Tg_tuple (is := [2, 3, 4]) (ok__law_mail L) ⟨⟨_, _, _, rfl, rfl, (by intro c h; cases h)⟩, ⟨_, _, _, rfl, rfl, (by intro c h; cases h)⟩, ⟨_, _, _, rfl, rfl, (by intro c h; cases h)⟩, trivial⟩) (X_cons (s__law_mail_1.2 prog w H K mg mb hm FK L)
  X_nil))⟩
noncomputable def s__law_mail_3 : { f : St → Option Out // ∀ (prog : Program) (w : World) (H : View) (K : Frag) (mg mb : Str → Option Value), Home K H mg mb → Facts K → ∀ L : Addr, SOk prog w H 2 (callEnvC fd__law_mail L 142) (locs ((["acts"] : List Str) ++ (["mail", "kind", "ahead", "end"] : List Str))) (stAt ((fnParts (item 13)).2.1) 2) f } := ⟨_, fun prog w H K mg mb hm FK L =>
  (S_ret (E_callK hm (V_fn hm FK.g__fix_eols) FK.fn__fix_eols.keep ((c__fix_eols hm FK).up (by decide)) (A_cons (E_name (ok__law_mail L) 1 rfl) A_nil) (.cons .nil)))⟩
noncomputable def x__law_mail : { f : St → Option Out // ∀ (prog : Program) (w : World) (H : View) (K : Frag) (mg mb : Str → Option Value), Home K H mg mb → Facts K → ∀ L : Addr, XOk prog w H 2 (callEnvC fd__law_mail L 142) (locs ((["acts"] : List Str) ++ (["mail", "kind", "ahead", "end"] : List Str))) (fnParts (item 13)).2.1 f } := ⟨_, fun prog w H K mg mb hm FK L =>
  (X_cons (s__law_mail_0.2 prog w H K mg mb hm FK L)
  (X_cons (s__law_mail_2.2 prog w H K mg mb hm FK L)
  (X_cons (s__law_mail_3.2 prog w H K mg mb hm FK L)
  X_nil)))⟩
theorem D__law_mail (hm : Home K H mg mb) (FK : Facts K) : DefOk H 142 fd__law_mail (fnParts (item 13)).2.1 (["acts"] : List Str) 5 (fun _ => locs ((["acts"] : List Str) ++ (["mail", "kind", "ahead", "end"] : List Str))) := DefOk.locals (["acts"] : List Str) (["mail", "kind", "ahead", "end"] : List Str) hm FK.fn__law_mail rfl rfl rfl rfl rfl ok__law_mail (by decide) (by decide)
theorem c__law_mail (hm : Home K H mg mb) (FK : Facts K) : COk prog w H 3 (.ref 142) (callV 1 5 x__law_mail.1) := C_def (D__law_mail hm FK) (fun vs h => by
    match vs, h with
    | [v0], _ => rfl) (x__law_mail.2 prog w H K mg mb hm FK)
theorem ok__law_due (L : Addr) : EnvOk (callEnvC fd__law_due L 147) (locs ((["acts"] : List Str) ++ (["runs", "place", "kind", "ahead", "end", "later"] : List Str))) := .of rfl ⟨nm_loc (by kernel_rfl), nm_loc (by kernel_rfl), nm_loc (by kernel_rfl), nm_loc (by kernel_rfl), nm_loc (by kernel_rfl), nm_loc (by kernel_rfl), nm_loc (by kernel_rfl), trivial⟩ (by decide) (by decide) (locs_apart _)
noncomputable def sc_1 : Scope := { kind := .function, names := [(".0", NameKind.local), ("act", NameKind.local)], isGenerator := false, isCoroutine := false, more := [] }
theorem cs_1 (L : Addr) : CompScope sc_1 (callEnvC fd__law_due L 147) [] (locs ((["acts"] : List Str) ++ (["runs", "place", "kind", "ahead", "end", "later"] : List Str))) [none] false (fun C => [("act", SK.loc)]) := ⟨rfl, by kernel_rfl, by decide, fun h => rfl, fun C => .of rfl ⟨nm_loc (by kernel_rfl), trivial⟩ (by kernel_rfl) (by simp only [List.map]; decide) (by intro x y c h; simp at h), fun C => trivial⟩
noncomputable def s__law_due_0 : { f : St → Option Out // ∀ (prog : Program) (w : World) (H : View) (K : Frag) (mg mb : Str → Option Value), Home K H mg mb → Facts K → ∀ L : Addr, SOk prog w H 1 (callEnvC fd__law_due L 147) (locs ((["acts"] : List Str) ++ (["runs", "place", "kind", "ahead", "end", "later"] : List Str))) (stAt ((fnParts (item 14)).2.1) 0) f } := ⟨_, fun prog w H K mg mb hm FK L =>
  (S_assign (x := "runs") (ok__law_due L) 1 rfl (by intro c h; cases h) (E_new (L_list A_nil)))⟩
noncomputable def s__law_due_1 : { f : St → Option Out // ∀ (prog : Program) (w : World) (H : View) (K : Frag) (mg mb : Str → Option Value), Home K H mg mb → Facts K → ∀ L : Addr, SOk prog w H 1 (callEnvC fd__law_due L 147) (locs ((["acts"] : List Str) ++ (["runs", "place", "kind", "ahead", "end", "later"] : List Str))) (stAt (forBody (stAt ((fnParts (item 14)).2.1) 1)) 0) f } := ⟨_, fun prog w H K mg mb hm FK L =>
  (S_unpack (is := [3, 4, 5]) (by decide) (ok__law_due L) ⟨⟨_, _, _, rfl, rfl, (by intro c h; cases h)⟩, ⟨_, _, _, rfl, rfl, (by intro c h; cases h)⟩, ⟨_, _, _, rfl, rfl, (by intro c h; cases h)⟩, trivial⟩ (E_idx (P_val (E_name (ok__law_due L) 0 rfl)) (E_name (ok__law_due L) 2 rfl)))⟩
noncomputable def s__law_due_2 : { f : St → Option Out // ∀ (prog : Program) (w : World) (H : View) (K : Frag) (mg mb : Str → Option Value), Home K H mg mb → Facts K → ∀ L : Addr, SOk prog w H 1 (callEnvC fd__law_due L 147) (locs ((["acts"] : List Str) ++ (["runs", "place", "kind", "ahead", "end", "later"] : List Str))) (stAt (forBody (stAt ((fnParts (item 14)).2.1) 1)) 1) f } := ⟨_, fun prog w H K mg mb hm FK L =>
  (S_assign (x := "later") (ok__law_due L) 6 rfl (by intro c h; cases h) (E_callB (V_bi hm FK.b_sum) C_sum (A_cons (E_new (L_comp (zip := false) (cs_1 L) (It_new (L_cut (P_val (E_name (ok__law_due L) 0 rfl)) (Pt_some (E_name (ok__law_due L) 2 rfl)) Pt_none) (by decide)) (fun C => (Tg_name ((cs_1 L).ok C) 0 rfl (by intro c h; cases h))) (fun C => If_nil) (fun C => (E_idxT (E_name ((cs_1 L).ok C) 0 rfl) E_int)))) A_nil) (.cons .nil)))⟩
noncomputable def s__law_due_3 : { f : St → Option Out // ∀ (prog : Program) (w : World) (H : View) (K : Frag) (mg mb : Str → Option Value), Home K H mg mb → Facts K → ∀ L : Addr, SOk prog w H 1 (callEnvC fd__law_due L 147) (locs ((["acts"] : List Str) ++ (["runs", "place", "kind", "ahead", "end", "later"] : List Str))) (stAt (forBody (stAt ((fnParts (item 14)).2.1) 1)) 2) f } := ⟨_, fun prog w H K mg mb hm FK L =>
  (S_if (T_and (T_cmp (by decide) C_eq (E_name (ok__law_due L) 3 rfl) E_int) (T_cmp (by decide) C_eq (E_name (ok__law_due L) 4 rfl) E_int)) (X_cons (S_assign (x := "runs") (ok__law_due L) 1 rfl (by intro c h; cases h) (E_bin (by decide) B_add (E_new (L_list (A_cons (E_name (ok__law_due L) 6 rfl) A_nil))) (E_name (ok__law_due L) 1 rfl)))
  X_nil) (X_cons (S_if (T_cmp (by decide) C_eq (E_name (ok__law_due L) 3 rfl) E_int) (X_cons (S_assign (x := "runs") (ok__law_due L) 1 rfl (by intro c h; cases h) (E_bin (by decide) B_add (E_name (ok__law_due L) 1 rfl) (E_new (L_list (A_cons (E_name (ok__law_due L) 6 rfl) A_nil)))))
  X_nil) X_nil)
  X_nil))⟩
noncomputable def s__law_due_4 : { f : St → Option Out // ∀ (prog : Program) (w : World) (H : View) (K : Frag) (mg mb : Str → Option Value), Home K H mg mb → Facts K → ∀ L : Addr, SOk prog w H 1 (callEnvC fd__law_due L 147) (locs ((["acts"] : List Str) ++ (["runs", "place", "kind", "ahead", "end", "later"] : List Str))) (stAt ((fnParts (item 14)).2.1) 1) f } := ⟨_, fun prog w H K mg mb hm FK L =>
  (S_for (zip := false) (It_range (by decide) (V_bi hm FK.b_range) (A_cons (E_len (V_bi hm FK.b_len) (P_val (E_name (ok__law_due L) 0 rfl)) (.cons .nil)) A_nil) (.cons .nil)) (Tg_name (ok__law_due L) 2 rfl (by intro c h; cases h)) (X_cons (s__law_due_1.2 prog w H K mg mb hm FK L)
  (X_cons (s__law_due_2.2 prog w H K mg mb hm FK L)
  (X_cons (s__law_due_3.2 prog w H K mg mb hm FK L)
  X_nil))))⟩
noncomputable def s__law_due_5 : { f : St → Option Out // ∀ (prog : Program) (w : World) (H : View) (K : Frag) (mg mb : Str → Option Value), Home K H mg mb → Facts K → ∀ L : Addr, SOk prog w H 1 (callEnvC fd__law_due L 147) (locs ((["acts"] : List Str) ++ (["runs", "place", "kind", "ahead", "end", "later"] : List Str))) (stAt ((fnParts (item 14)).2.1) 2) f } := ⟨_, fun prog w H K mg mb hm FK L =>
  (S_ret (E_name (ok__law_due L) 1 rfl))⟩
noncomputable def x__law_due : { f : St → Option Out // ∀ (prog : Program) (w : World) (H : View) (K : Frag) (mg mb : Str → Option Value), Home K H mg mb → Facts K → ∀ L : Addr, XOk prog w H 1 (callEnvC fd__law_due L 147) (locs ((["acts"] : List Str) ++ (["runs", "place", "kind", "ahead", "end", "later"] : List Str))) (fnParts (item 14)).2.1 f } := ⟨_, fun prog w H K mg mb hm FK L =>
  (X_cons (s__law_due_0.2 prog w H K mg mb hm FK L)
  (X_cons (s__law_due_4.2 prog w H K mg mb hm FK L)
  (X_cons (s__law_due_5.2 prog w H K mg mb hm FK L)
  X_nil)))⟩
theorem D__law_due (hm : Home K H mg mb) (FK : Facts K) : DefOk H 147 fd__law_due (fnParts (item 14)).2.1 (["acts"] : List Str) 7 (fun _ => locs ((["acts"] : List Str) ++ (["runs", "place", "kind", "ahead", "end", "later"] : List Str))) := DefOk.locals (["acts"] : List Str) (["runs", "place", "kind", "ahead", "end", "later"] : List Str) hm FK.fn__law_due rfl rfl rfl rfl rfl ok__law_due (by decide) (by decide)
theorem c__law_due (hm : Home K H mg mb) (FK : Facts K) : COk prog w H 2 (.ref 147) (callV 1 7 x__law_due.1) := C_def (D__law_due hm FK) (fun vs h => by
    match vs, h with
    | [v0], _ => rfl) (x__law_due.2 prog w H K mg mb hm FK)
theorem ok__law_column (L : Addr) : EnvOk (callEnvC fd__law_column L 152) ([("tabs", SK.loc), ("runs", SK.loc), ("size", SK.own (L + 1)), ("met", SK.loc), ("tall", SK.own (L + 2))]) := .of rfl ⟨nm_loc (by kernel_rfl), nm_loc (by kernel_rfl), nm_own (by kernel_rfl) (by kernel_rfl), nm_loc (by kernel_rfl), nm_own (by kernel_rfl) (by kernel_rfl), trivial⟩ (by kernel_rfl) (by simp only [List.map]; decide) (by intro x y c h1 h2; simp at h1 h2; rcases h1 with ⟨rfl, h1⟩ | ⟨rfl, h1⟩ <;> rcases h2 with ⟨rfl, h2⟩ | ⟨rfl, h2⟩ <;> first | rfl | (exfalso; rw [h1] at h2; exact absurd h2 (by intro q; have q2 : @Eq Nat _ _ := q; omega)))
noncomputable def sc_2 : Scope := { kind := .function, names := [(".0", NameKind.local), ("k", NameKind.local), ("size", NameKind.free), ("tall", NameKind.free)], isGenerator := false, isCoroutine := false, more := [] }
theorem cs_2 (L : Addr) : CompScope sc_2 (callEnvC fd__law_column L 152) [("tall", L + 2), ("size", L + 1)] ([("tabs", SK.loc), ("runs", SK.loc), ("size", SK.own (L + 1)), ("met", SK.loc), ("tall", SK.own (L + 2))]) [none, some 2, some 4] false (fun C => [("k", SK.loc), ("size", SK.far (L + 1)), ("tall", SK.far (L + 2))]) := ⟨rfl, by kernel_rfl, by decide, fun h => rfl, fun C => .of rfl ⟨nm_loc (by kernel_rfl), nm_far (by kernel_rfl) (by kernel_rfl), nm_far (by kernel_rfl) (by kernel_rfl), trivial⟩ (by kernel_rfl) (by simp only [List.map]; decide) (by intro x y c h; simp at h), fun C => ⟨⟨_, _, rfl, .inl rfl⟩, ⟨_, _, rfl, .inl rfl⟩, trivial⟩⟩
noncomputable def s__law_column_0 : { f : St → Option Out // ∀ (prog : Program) (w : World) (H : View) (K : Frag) (mg mb : Str → Option Value), Home K H mg mb → Facts K → ∀ L : Addr, SOk prog w H 1 (callEnvC fd__law_column L 152) ([("tabs", SK.loc), ("runs", SK.loc), ("size", SK.own (L + 1)), ("met", SK.loc), ("tall", SK.own (L + 2))]) (stAt ((fnParts (item 15)).2.1) 0) f } := ⟨_, fun prog w H K mg mb hm FK L =>
  (S_assign (x := "tall") (ok__law_column L) 4 rfl (by intro c h; cases h) (E_sorted (V_bi hm FK.b_sorted) (E_name (ok__law_column L) 1 rfl)))⟩
noncomputable def s__law_column_1 : { f : St → Option Out // ∀ (prog : Program) (w : World) (H : View) (K : Frag) (mg mb : Str → Option Value), Home K H mg mb → Facts K → ∀ L : Addr, SOk prog w H 1 (callEnvC fd__law_column L 152) ([("tabs", SK.loc), ("runs", SK.loc), ("size", SK.own (L + 1)), ("met", SK.loc), ("tall", SK.own (L + 2))]) (stAt ((fnParts (item 15)).2.1) 1) f } := ⟨_, fun prog w H K mg mb hm FK L =>
  (S_assign_comp (x := "met") (ok__law_column L) 3 rfl (zip := false) (cs_2 L) (It_range (by decide) (V_bi hm FK.b_range) (A_cons (E_len (V_bi hm FK.b_len) (P_val (E_name (ok__law_column L) 4 rfl)) (.cons .nil)) A_nil) (.cons .nil)) (fun C => (Tg_name ((cs_2 L).ok C) 0 rfl (by intro c h; cases h))) (fun C => (If_one (T_cmp (by decide) C_eq (E_bin (by decide) B_fmod (E_bin (by decide) B_add (E_name ((cs_2 L).ok C) 0 rfl) E_int) (E_name ((cs_2 L).ok C) 1 rfl)) E_int))) (fun C => (E_idx (P_val (E_name ((cs_2 L).ok C) 2 rfl)) (E_name ((cs_2 L).ok C) 0 rfl))))⟩
noncomputable def s__law_column_2 : { f : St → Option Out // ∀ (prog : Program) (w : World) (H : View) (K : Frag) (mg mb : Str → Option Value), Home K H mg mb → Facts K → ∀ L : Addr, SOk prog w H 1 (callEnvC fd__law_column L 152) ([("tabs", SK.loc), ("runs", SK.loc), ("size", SK.own (L + 1)), ("met", SK.loc), ("tall", SK.own (L + 2))]) (stAt ((fnParts (item 15)).2.1) 2) f } := ⟨_, fun prog w H K mg mb hm FK L =>
  (S_ret (E_bin (by decide) B_mul (E_name (ok__law_column L) 2 rfl) (E_bin (by decide) B_add (E_name (ok__law_column L) 0 rfl) (E_callB (V_bi hm FK.b_sum) C_sum (A_cons (E_name (ok__law_column L) 3 rfl) A_nil) (.cons .nil)))))⟩
noncomputable def x__law_column : { f : St → Option Out // ∀ (prog : Program) (w : World) (H : View) (K : Frag) (mg mb : Str → Option Value), Home K H mg mb → Facts K → ∀ L : Addr, XOk prog w H 1 (callEnvC fd__law_column L 152) ([("tabs", SK.loc), ("runs", SK.loc), ("size", SK.own (L + 1)), ("met", SK.loc), ("tall", SK.own (L + 2))]) (fnParts (item 15)).2.1 f } := ⟨_, fun prog w H K mg mb hm FK L =>
  (X_cons (s__law_column_0.2 prog w H K mg mb hm FK L)
  (X_cons (s__law_column_1.2 prog w H K mg mb hm FK L)
  (X_freeze 3 (X_cons (s__law_column_2.2 prog w H K mg mb hm FK L)
  X_nil))))⟩
theorem D__law_column (hm : Home K H mg mb) (FK : Facts K) : DefOk H 152 fd__law_column (fnParts (item 15)).2.1 (["tabs", "runs", "size"] : List Str) 5 (fun L => [("tabs", SK.loc), ("runs", SK.loc), ("size", SK.own (L + 1)), ("met", SK.loc), ("tall", SK.own (L + 2))]) := DefOk.of hm FK.fn__law_column rfl rfl rfl rfl rfl (fun _ => rfl) (by decide) ok__law_column (fun L i x k h hi => by rcases i with _ | _ | _ | i <;> simp at h hi <;> first | (obtain ⟨rfl, _⟩ := h; rfl) | omega) (fun L x hx => by simp at hx; rcases hx with rfl | rfl | rfl; exact .inl (by kernel_rfl); exact .inl (by kernel_rfl); exact .inr ⟨by kernel_rfl, by kernel_rfl⟩) (fun L x c h => by simp at h) (by decide)
theorem c__law_column (hm : Home K H mg mb) (FK : Facts K) : COk prog w H 2 (.ref 152) (callV 3 5 x__law_column.1) := C_def (D__law_column hm FK) (fun vs h => by
    match vs, h with
    | [v0, v1, v2], _ => rfl) (x__law_column.2 prog w H K mg mb hm FK)
theorem ok_law (L : Addr) : EnvOk (callEnvC fd_law L 157) (locs ((["script"] : List Str) ++ (["ends", "acts", "x", "turned", "rows", "columns", "leads", "deeds", "due", "lead", "first", "second", "shallower", "size", "here", "there", "mirror"] : List Str))) := .of rfl ⟨nm_loc (by kernel_rfl), nm_loc (by kernel_rfl), nm_loc (by kernel_rfl), nm_loc (by kernel_rfl), nm_loc (by kernel_rfl), nm_loc (by kernel_rfl), nm_loc (by kernel_rfl), nm_loc (by kernel_rfl), nm_loc (by kernel_rfl), nm_loc (by kernel_rfl), nm_loc (by kernel_rfl), nm_loc (by kernel_rfl), nm_loc (by kernel_rfl), nm_loc (by kernel_rfl), nm_loc (by kernel_rfl), nm_loc (by kernel_rfl), nm_loc (by kernel_rfl), nm_loc (by kernel_rfl), trivial⟩ (by decide) (by decide) (locs_apart _)
noncomputable def sc_3 : Scope := { kind := .function, names := [(".0", NameKind.local), ("kind", NameKind.local), ("ahead", NameKind.local), ("end", NameKind.local)], isGenerator := false, isCoroutine := false, more := [] }
theorem cs_3 (L : Addr) : CompScope sc_3 (callEnvC fd_law L 157) [] (locs ((["script"] : List Str) ++ (["ends", "acts", "x", "turned", "rows", "columns", "leads", "deeds", "due", "lead", "first", "second", "shallower", "size", "here", "there", "mirror"] : List Str))) [none, none, none] false (fun C => [("kind", SK.loc), ("ahead", SK.loc), ("end", SK.loc)]) := ⟨rfl, by kernel_rfl, by decide, fun h => rfl, fun C => .of rfl ⟨nm_loc (by kernel_rfl), nm_loc (by kernel_rfl), nm_loc (by kernel_rfl), trivial⟩ (by kernel_rfl) (by simp only [List.map]; decide) (by intro x y c h; simp at h), fun C => trivial⟩
noncomputable def sc_4 : Scope := { kind := .function, names := [(".0", NameKind.local), ("blanks", NameKind.local)], isGenerator := false, isCoroutine := false, more := [] }
theorem cs_4 (L : Addr) : CompScope sc_4 (callEnvC fd_law L 157) [] (locs ((["script"] : List Str) ++ (["ends", "acts", "x", "turned", "rows", "columns", "leads", "deeds", "due", "lead", "first", "second", "shallower", "size", "here", "there", "mirror"] : List Str))) [none] false (fun C => [("blanks", SK.loc)]) := ⟨rfl, by kernel_rfl, by decide, fun h => rfl, fun C => .of rfl ⟨nm_loc (by kernel_rfl), trivial⟩ (by kernel_rfl) (by simp only [List.map]; decide) (by intro x y c h; simp at h), fun C => trivial⟩
noncomputable def sc_5 : Scope := { kind := .function, names := [(".0", NameKind.local), ("act", NameKind.local)], isGenerator := false, isCoroutine := false, more := [] }
theorem cs_5 (L : Addr) : CompScope sc_5 (callEnvC fd_law L 157) [] (locs ((["script"] : List Str) ++ (["ends", "acts", "x", "turned", "rows", "columns", "leads", "deeds", "due", "lead", "first", "second", "shallower", "size", "here", "there", "mirror"] : List Str))) [none] false (fun C => [("act", SK.loc)]) := ⟨rfl, by kernel_rfl, by decide, fun h => rfl, fun C => .of rfl ⟨nm_loc (by kernel_rfl), trivial⟩ (by kernel_rfl) (by simp only [List.map]; decide) (by intro x y c h; simp at h), fun C => trivial⟩
noncomputable def sc_6 : Scope := { kind := .function, names := [(".0", NameKind.local), ("act", NameKind.local)], isGenerator := false, isCoroutine := false, more := [] }
theorem cs_6 (L : Addr) : CompScope sc_6 (callEnvC fd_law L 157) [] (locs ((["script"] : List Str) ++ (["ends", "acts", "x", "turned", "rows", "columns", "leads", "deeds", "due", "lead", "first", "second", "shallower", "size", "here", "there", "mirror"] : List Str))) [none] false (fun C => [("act", SK.loc)]) := ⟨rfl, by kernel_rfl, by decide, fun h => rfl, fun C => .of rfl ⟨nm_loc (by kernel_rfl), trivial⟩ (by kernel_rfl) (by simp only [List.map]; decide) (by intro x y c h; simp at h), fun C => trivial⟩
noncomputable def s_law_0 : { f : St → Option Out // ∀ (prog : Program) (w : World) (H : View) (K : Frag) (mg mb : Str → Option Value), Home K H mg mb → Facts K → ∀ L : Addr, SOk prog w H 3 (callEnvC fd_law L 157) (locs ((["script"] : List Str) ++ (["ends", "acts", "x", "turned", "rows", "columns", "leads", "deeds", "due", "lead", "first", "second", "shallower", "size", "here", "there", "mirror"] : List Str))) (stAt ((fnParts (item 16)).2.1) 0) f } := ⟨_, fun prog w H K mg mb hm FK L =>
  (S_assign (x := "ends") (ok_law L) 1 rfl (by intro c h; cases h) (E_new (L_list (A_cons E_str (A_cons E_str (A_cons E_str A_nil))))))⟩
noncomputable def s_law_1 : { f : St → Option Out // ∀ (prog : Program) (w : World) (H : View) (K : Frag) (mg mb : Str → Option Value), Home K H mg mb → Facts K → ∀ L : Addr, SOk prog w H 3 (callEnvC fd_law L 157) (locs ((["script"] : List Str) ++ (["ends", "acts", "x", "turned", "rows", "columns", "leads", "deeds", "due", "lead", "first", "second", "shallower", "size", "here", "there", "mirror"] : List Str))) (stAt ((fnParts (item 16)).2.1) 1) f } := ⟨_, fun prog w H K mg mb hm FK L =>
  (S_assign_own (x := "acts") (ok_law L) 2 rfl (L_list (A_cons (E_tuple (A_cons E_int (A_cons E_int (A_cons E_str A_nil)))) (A_cons (E_tuple (A_cons E_int (A_cons E_int (A_cons E_str A_nil)))) (A_cons (E_tuple (A_cons E_int (A_cons E_int (A_cons E_str A_nil)))) A_nil)))))⟩
noncomputable def s_law_2 : { f : St → Option Out // ∀ (prog : Program) (w : World) (H : View) (K : Frag) (mg mb : Str → Option Value), Home K H mg mb → Facts K → ∀ L : Addr, SOk prog w H 3 (callEnvC fd_law L 157) (locs ((["script"] : List Str) ++ (["ends", "acts", "x", "turned", "rows", "columns", "leads", "deeds", "due", "lead", "first", "second", "shallower", "size", "here", "there", "mirror"] : List Str))) (stAt (forBody (stAt ((fnParts (item 16)).2.1) 2)) 0) f } := ⟨_, fun prog w H K mg mb hm FK L =>
  (S_append (x := "acts") (ok_law L) 2 rfl (E_tuple (A_cons (E_bin (by decide) B_fmod (E_name (ok_law L) 3 rfl) E_int) (A_cons (E_bin (by decide) B_fmod (E_bin (by decide) B_fdiv (E_name (ok_law L) 3 rfl) E_int) E_int) (A_cons (E_idx (P_val (E_name (ok_law L) 1 rfl)) (E_bin (by decide) B_fmod (E_bin (by decide) B_fdiv (E_name (ok_law L) 3 rfl) E_int) E_int)) A_nil)))))⟩
noncomputable def s_law_3 : { f : St → Option Out // ∀ (prog : Program) (w : World) (H : View) (K : Frag) (mg mb : Str → Option Value), Home K H mg mb → Facts K → ∀ L : Addr, SOk prog w H 3 (callEnvC fd_law L 157) (locs ((["script"] : List Str) ++ (["ends", "acts", "x", "turned", "rows", "columns", "leads", "deeds", "due", "lead", "first", "second", "shallower", "size", "here", "there", "mirror"] : List Str))) (stAt ((fnParts (item 16)).2.1) 2) f } := ⟨_, fun prog w H K mg mb hm FK L =>
  (S_for (zip := false) (It_new (L_cut (P_val (E_name (ok_law L) 0 rfl)) Pt_none (Pt_some E_int)) (by decide)) (Tg_name (ok_law L) 3 rfl (by intro c h; cases h)) (X_cons (s_law_2.2 prog w H K mg mb hm FK L)
  X_nil))⟩
noncomputable def s_law_4 : { f : St → Option Out // ∀ (prog : Program) (w : World) (H : View) (K : Frag) (mg mb : Str → Option Value), Home K H mg mb → Facts K → ∀ L : Addr, SOk prog w H 3 (callEnvC fd_law L 157) (locs ((["script"] : List Str) ++ (["ends", "acts", "x", "turned", "rows", "columns", "leads", "deeds", "due", "lead", "first", "second", "shallower", "size", "here", "there", "mirror"] : List Str))) (stAt ((fnParts (item 16)).2.1) 3) f } := ⟨_, fun prog w H K mg mb hm FK L =>
  (S_assign_comp (x := "turned") (ok_law L) 4 rfl (zip := false) (cs_3 L) (It_new (L_rev (P_val (E_name (ok_law L) 2 rfl)) (E_neg E_int)) (by decide)) (fun C => (Tg_tuple (is := [0, 1, 2]) ((cs_3 L).ok C) ⟨⟨_, _, _, rfl, rfl, (by intro c h; cases h)⟩, ⟨_, _, _, rfl, rfl, (by intro c h; cases h)⟩, ⟨_, _, _, rfl, rfl, (by intro c h; cases h)⟩, trivial⟩)) (fun C => If_nil) (fun C => (E_tuple (A_cons (E_bin (by decide) B_sub E_int (E_name ((cs_3 L).ok C) 0 rfl)) (A_cons E_int (A_cons E_str A_nil))))))⟩
noncomputable def s_law_5 : { f : St → Option Out // ∀ (prog : Program) (w : World) (H : View) (K : Frag) (mg mb : Str → Option Value), Home K H mg mb → Facts K → ∀ L : Addr, SOk prog w H 3 (callEnvC fd_law L 157) (locs ((["script"] : List Str) ++ (["ends", "acts", "x", "turned", "rows", "columns", "leads", "deeds", "due", "lead", "first", "second", "shallower", "size", "here", "there", "mirror"] : List Str))) (stAt ((fnParts (item 16)).2.1) 4) f } := ⟨_, fun prog w H K mg mb hm FK L =>
  (S_assign (x := "rows") (ok_law L) 5 rfl (by intro c h; cases h) (E_callK hm (V_fn hm FK.g__law_due) FK.fn__law_due.keep ((c__law_due hm FK).up (by decide)) (A_cons (E_name (ok_law L) 2 rfl) A_nil) (.cons .nil)))⟩
noncomputable def s_law_6 : { f : St → Option Out // ∀ (prog : Program) (w : World) (H : View) (K : Frag) (mg mb : Str → Option Value), Home K H mg mb → Facts K → ∀ L : Addr, SOk prog w H 3 (callEnvC fd_law L 157) (locs ((["script"] : List Str) ++ (["ends", "acts", "x", "turned", "rows", "columns", "leads", "deeds", "due", "lead", "first", "second", "shallower", "size", "here", "there", "mirror"] : List Str))) (stAt ((fnParts (item 16)).2.1) 5) f } := ⟨_, fun prog w H K mg mb hm FK L =>
  (S_assign (x := "columns") (ok_law L) 6 rfl (by intro c h; cases h) (E_callK hm (V_fn hm FK.g__law_due) FK.fn__law_due.keep ((c__law_due hm FK).up (by decide)) (A_cons (E_name (ok_law L) 4 rfl) A_nil) (.cons .nil)))⟩
noncomputable def s_law_7 : { f : St → Option Out // ∀ (prog : Program) (w : World) (H : View) (K : Frag) (mg mb : Str → Option Value), Home K H mg mb → Facts K → ∀ L : Addr, SOk prog w H 3 (callEnvC fd_law L 157) (locs ((["script"] : List Str) ++ (["ends", "acts", "x", "turned", "rows", "columns", "leads", "deeds", "due", "lead", "first", "second", "shallower", "size", "here", "there", "mirror"] : List Str))) (stAt ((fnParts (item 16)).2.1) 6) f } := ⟨_, fun prog w H K mg mb hm FK L =>
  (S_assign_own (x := "leads") (ok_law L) 7 rfl (L_list A_nil))⟩
noncomputable def s_law_8 : { f : St → Option Out // ∀ (prog : Program) (w : World) (H : View) (K : Frag) (mg mb : Str → Option Value), Home K H mg mb → Facts K → ∀ L : Addr, SOk prog w H 3 (callEnvC fd_law L 157) (locs ((["script"] : List Str) ++ (["ends", "acts", "x", "turned", "rows", "columns", "leads", "deeds", "due", "lead", "first", "second", "shallower", "size", "here", "there", "mirror"] : List Str))) (stAt (forBody (stAt ((fnParts (item 16)).2.1) 7)) 0) f } := ⟨_, fun prog w H K mg mb hm FK L =>
  (S_assign (x := "lead") (ok_law L) 10 rfl (by intro c h; cases h) (E_callK hm (V_fn hm FK.g_replace) FK.fn_replace.keep ((c_replace hm FK).up (by decide)) (A_cons (E_callK hm (V_fn hm FK.g__law_mail) FK.fn__law_mail.keep ((c__law_mail hm FK).up (by decide)) (A_cons (E_name (ok_law L) 8 rfl) A_nil) (.cons .nil)) (A_cons E_str (A_cons E_str (A_cons E_str (A_cons E_str A_nil))))) (.cons (.cons (.cons (.cons (.cons .nil)))))))⟩
noncomputable def s_law_9 : { f : St → Option Out // ∀ (prog : Program) (w : World) (H : View) (K : Frag) (mg mb : Str → Option Value), Home K H mg mb → Facts K → ∀ L : Addr, SOk prog w H 3 (callEnvC fd_law L 157) (locs ((["script"] : List Str) ++ (["ends", "acts", "x", "turned", "rows", "columns", "leads", "deeds", "due", "lead", "first", "second", "shallower", "size", "here", "there", "mirror"] : List Str))) (stAt (forBody (stAt ((fnParts (item 16)).2.1) 7)) 1) f } := ⟨_, fun prog w H K mg mb hm FK L =>
  (S_if (T_cmp (by decide) C_ne (E_name (ok_law L) 10 rfl) (E_strMeth E_str GM_join C_join (A_cons (E_new (L_comp (zip := false) (cs_4 L) (It_list (E_name (ok_law L) 9 rfl) (by decide)) (fun C => (Tg_name ((cs_4 L).ok C) 0 rfl (by intro c h; cases h))) (fun C => If_nil) (fun C => (E_bin (by decide) B_add (E_bin (by decide) B_mul E_str (E_name ((cs_4 L).ok C) 0 rfl)) E_str)))) A_nil) (.cons .nil))) (X_cons (S_ret E_bool)
  X_nil) X_nil)⟩
noncomputable def s_law_10 : { f : St → Option Out // ∀ (prog : Program) (w : World) (H : View) (K : Frag) (mg mb : Str → Option Value), Home K H mg mb → Facts K → ∀ L : Addr, SOk prog w H 3 (callEnvC fd_law L 157) (locs ((["script"] : List Str) ++ (["ends", "acts", "x", "turned", "rows", "columns", "leads", "deeds", "due", "lead", "first", "second", "shallower", "size", "here", "there", "mirror"] : List Str))) (stAt (forBody (stAt ((fnParts (item 16)).2.1) 7)) 2) f } := ⟨_, fun prog w H K mg mb hm FK L =>
  (S_append (x := "leads") (ok_law L) 7 rfl (E_callK hm (V_fn hm FK.g_Whitespace) FK.k_Whitespace ((c_Whitespace hm FK).up (by decide)) (A_cons (E_bin (by decide) B_add (E_name (ok_law L) 10 rfl) E_str) A_nil) (.cons .nil)))⟩
noncomputable def s_law_11 : { f : St → Option Out // ∀ (prog : Program) (w : World) (H : View) (K : Frag) (mg mb : Str → Option Value), Home K H mg mb → Facts K → ∀ L : Addr, SOk prog w H 3 (callEnvC fd_law L 157) (locs ((["script"] : List Str) ++ (["ends", "acts", "x", "turned", "rows", "columns", "leads", "deeds", "due", "lead", "first", "second", "shallower", "size", "here", "there", "mirror"] : List Str))) (stAt ((fnParts (item 16)).2.1) 7) f } := ⟨_, fun prog w H K mg mb hm FK L =>
  (S_for (zip := false) (It_new (L_list (A_cons (E_tuple (A_cons (E_name (ok_law L) 2 rfl) (A_cons (E_name (ok_law L) 5 rfl) A_nil))) (A_cons (E_tuple (A_cons (E_name (ok_law L) 4 rfl) (A_cons (E_name (ok_law L) 6 rfl) A_nil))) A_nil))) (by decide)) (Tg_tuple (is := [8, 9]) (ok_law L) ⟨⟨_, _, _, rfl, rfl, (by intro c h; cases h)⟩, ⟨_, _, _, rfl, rfl, (by intro c h; cases h)⟩, trivial⟩) (X_cons (s_law_8.2 prog w H K mg mb hm FK L)
  (X_cons (s_law_9.2 prog w H K mg mb hm FK L)
  (X_cons (s_law_10.2 prog w H K mg mb hm FK L)
  X_nil))))⟩
noncomputable def s_law_12 : { f : St → Option Out // ∀ (prog : Program) (w : World) (H : View) (K : Frag) (mg mb : Str → Option Value), Home K H mg mb → Facts K → ∀ L : Addr, SOk prog w H 3 (callEnvC fd_law L 157) (locs ((["script"] : List Str) ++ (["ends", "acts", "x", "turned", "rows", "columns", "leads", "deeds", "due", "lead", "first", "second", "shallower", "size", "here", "there", "mirror"] : List Str))) (stAt ((fnParts (item 16)).2.1) 8) f } := ⟨_, fun prog w H K mg mb hm FK L =>
  (S_unpack (is := [11, 12]) (by decide) (ok_law L) ⟨⟨_, _, _, rfl, rfl, (by intro c h; cases h)⟩, ⟨_, _, _, rfl, rfl, (by intro c h; cases h)⟩, trivial⟩ (E_name (ok_law L) 7 rfl))⟩
noncomputable def s_law_13 : { f : St → Option Out // ∀ (prog : Program) (w : World) (H : View) (K : Frag) (mg mb : Str → Option Value), Home K H mg mb → Facts K → ∀ L : Addr, SOk prog w H 3 (callEnvC fd_law L 157) (locs ((["script"] : List Str) ++ (["ends", "acts", "x", "turned", "rows", "columns", "leads", "deeds", "due", "lead", "first", "second", "shallower", "size", "here", "there", "mirror"] : List Str))) (stAt ((fnParts (item 16)).2.1) 9) f } := ⟨_, fun prog w H K mg mb hm FK L =>
  (S_if (T_cmp (by decide) C_ne (E_bin (by decide) B_sub (E_attr hm.kh FK.a_n (E_name (ok_law L) 11 rfl)) (E_attr hm.kh FK.a_nt (E_name (ok_law L) 11 rfl))) (E_bin (by decide) B_sub (E_attr hm.kh FK.a_n (E_name (ok_law L) 12 rfl)) (E_attr hm.kh FK.a_nt (E_name (ok_law L) 12 rfl)))) (X_cons (S_ret E_bool)
  X_nil) X_nil)⟩
noncomputable def s_law_14 : { f : St → Option Out // ∀ (prog : Program) (w : World) (H : View) (K : Frag) (mg mb : Str → Option Value), Home K H mg mb → Facts K → ∀ L : Addr, SOk prog w H 3 (callEnvC fd_law L 157) (locs ((["script"] : List Str) ++ (["ends", "acts", "x", "turned", "rows", "columns", "leads", "deeds", "due", "lead", "first", "second", "shallower", "size", "here", "there", "mirror"] : List Str))) (stAt ((fnParts (item 16)).2.1) 10) f } := ⟨_, fun prog w H K mg mb hm FK L =>
  (S_assign (x := "shallower") (ok_law L) 13 rfl (by intro c h; cases h) E_bool)⟩
noncomputable def s_law_15 : { f : St → Option Out // ∀ (prog : Program) (w : World) (H : View) (K : Frag) (mg mb : Str → Option Value), Home K H mg mb → Facts K → ∀ L : Addr, SOk prog w H 3 (callEnvC fd_law L 157) (locs ((["script"] : List Str) ++ (["ends", "acts", "x", "turned", "rows", "columns", "leads", "deeds", "due", "lead", "first", "second", "shallower", "size", "here", "there", "mirror"] : List Str))) (stAt (forBody (stAt ((fnParts (item 16)).2.1) 11)) 0) f } := ⟨_, fun prog w H K mg mb hm FK L =>
  (S_assign (x := "here") (ok_law L) 15 rfl (by intro c h; cases h) (E_callK hm (V_fn hm FK.g__law_column) FK.fn__law_column.keep ((c__law_column hm FK).up (by decide)) (A_cons (E_len (V_bi hm FK.b_len) (P_val (E_name (ok_law L) 5 rfl)) (.cons .nil)) (A_cons (E_name (ok_law L) 6 rfl) (A_cons (E_name (ok_law L) 14 rfl) A_nil))) (.cons (.cons (.cons .nil)))))⟩
noncomputable def s_law_16 : { f : St → Option Out // ∀ (prog : Program) (w : World) (H : View) (K : Frag) (mg mb : Str → Option Value), Home K H mg mb → Facts K → ∀ L : Addr, SOk prog w H 3 (callEnvC fd_law L 157) (locs ((["script"] : List Str) ++ (["ends", "acts", "x", "turned", "rows", "columns", "leads", "deeds", "due", "lead", "first", "second", "shallower", "size", "here", "there", "mirror"] : List Str))) (stAt (forBody (stAt ((fnParts (item 16)).2.1) 11)) 1) f } := ⟨_, fun prog w H K mg mb hm FK L =>
  (S_assign (x := "there") (ok_law L) 16 rfl (by intro c h; cases h) (E_callK hm (V_fn hm FK.g__law_column) FK.fn__law_column.keep ((c__law_column hm FK).up (by decide)) (A_cons (E_len (V_bi hm FK.b_len) (P_val (E_name (ok_law L) 6 rfl)) (.cons .nil)) (A_cons (E_name (ok_law L) 5 rfl) (A_cons (E_name (ok_law L) 14 rfl) A_nil))) (.cons (.cons (.cons .nil)))))⟩
noncomputable def s_law_17 : { f : St → Option Out // ∀ (prog : Program) (w : World) (H : View) (K : Frag) (mg mb : Str → Option Value), Home K H mg mb → Facts K → ∀ L : Addr, SOk prog w H 3 (callEnvC fd_law L 157) (locs ((["script"] : List Str) ++ (["ends", "acts", "x", "turned", "rows", "columns", "leads", "deeds", "due", "lead", "first", "second", "shallower", "size", "here", "there", "mirror"] : List Str))) (stAt (forBody (stAt ((fnParts (item 16)).2.1) 11)) 2) f } := ⟨_, fun prog w H K mg mb hm FK L =>
  (S_if (T_or (T_cmp (by decide) C_ne (E_instMethK hm.kh FK.m_indent_level (E_name (ok_law L) 11 rfl) FK.fn_indent_level.keep ((c_indent_level hm FK).up (by decide)) (A_cons (E_name (ok_law L) 14 rfl) A_nil) (.cons .nil)) (E_name (ok_law L) 15 rfl)) (T_cmp (by decide) C_ne (E_instMethK hm.kh FK.m_indent_level (E_name (ok_law L) 12 rfl) FK.fn_indent_level.keep ((c_indent_level hm FK).up (by decide)) (A_cons (E_name (ok_law L) 14 rfl) A_nil) (.cons .nil)) (E_name (ok_law L) 16 rfl))) (X_cons (S_ret E_bool)
  X_nil) X_nil)⟩
noncomputable def s_law_18 : { f : St → Option Out // ∀ (prog : Program) (w : World) (H : View) (K : Frag) (mg mb : Str → Option Value), Home K H mg mb → Facts K → ∀ L : Addr, SOk prog w H 3 (callEnvC fd_law L 157) (locs ((["script"] : List Str) ++ (["ends", "acts", "x", "turned", "rows", "columns", "leads", "deeds", "due", "lead", "first", "second", "shallower", "size", "here", "there", "mirror"] : List Str))) (stAt (forBody (stAt ((fnParts (item 16)).2.1) 11)) 3) f } := ⟨_, fun prog w H K mg mb hm FK L =>
  (S_assign (x := "shallower") (ok_law L) 13 rfl (by intro c h; cases h) (E_and (E_name (ok_law L) 13 rfl) (E_cmp (by decide) C_lt (E_name (ok_law L) 15 rfl) (E_name (ok_law L) 16 rfl))))⟩
noncomputable def s_law_19 : { f : St → Option Out // ∀ (prog : Program) (w : World) (H : View) (K : Frag) (mg mb : Str → Option Value), Home K H mg mb → Facts K → ∀ L : Addr, SOk prog w H 3 (callEnvC fd_law L 157) (locs ((["script"] : List Str) ++ (["ends", "acts", "x", "turned", "rows", "columns", "leads", "deeds", "due", "lead", "first", "second", "shallower", "size", "here", "there", "mirror"] : List Str))) (stAt ((fnParts (item 16)).2.1) 11) f } := ⟨_, fun prog w H K mg mb hm FK L =>
  (S_for (zip := false) (It_range (by decide) (V_bi hm FK.b_range) (A_cons E_int (A_cons (E_bin (by decide) B_add (E_len (V_bi hm FK.b_len) (P_val (E_name (ok_law L) 2 rfl)) (.cons .nil)) E_int) A_nil)) (.cons (.cons .nil))) (Tg_name (ok_law L) 14 rfl (by intro c h; cases h)) (X_cons (s_law_15.2 prog w H K mg mb hm FK L)
  (X_cons (s_law_16.2 prog w H K mg mb hm FK L)
  (X_cons (s_law_17.2 prog w H K mg mb hm FK L)
  (X_cons (s_law_18.2 prog w H K mg mb hm FK L)
  X_nil)))))⟩
noncomputable def s_law_20 : { f : St → Option Out // ∀ (prog : Program) (w : World) (H : View) (K : Frag) (mg mb : Str → Option Value), Home K H mg mb → Facts K → ∀ L : Addr, SOk prog w H 3 (callEnvC fd_law L 157) (locs ((["script"] : List Str) ++ (["ends", "acts", "x", "turned", "rows", "columns", "leads", "deeds", "due", "lead", "first", "second", "shallower", "size", "here", "there", "mirror"] : List Str))) (stAt ((fnParts (item 16)).2.1) 12) f } := ⟨_, fun prog w H K mg mb hm FK L =>
  (S_assign (x := "mirror") (ok_law L) 17 rfl (by intro c h; cases h) (E_cmp (by decide) C_eq (E_new (L_comp (zip := false) (cs_5 L) (It_list (E_name (ok_law L) 2 rfl) (by decide)) (fun C => (Tg_name ((cs_5 L).ok C) 0 rfl (by intro c h; cases h))) (fun C => If_nil) (fun C => (E_idxT (E_name ((cs_5 L).ok C) 0 rfl) E_int)))) (E_new (L_comp (zip := false) (cs_6 L) (It_list (E_name (ok_law L) 4 rfl) (by decide)) (fun C => (Tg_name ((cs_6 L).ok C) 0 rfl (by intro c h; cases h))) (fun C => If_nil) (fun C => (E_idxT (E_name ((cs_6 L).ok C) 0 rfl) E_int))))))⟩
noncomputable def s_law_21 : { f : St → Option Out // ∀ (prog : Program) (w : World) (H : View) (K : Frag) (mg mb : Str → Option Value), Home K H mg mb → Facts K → ∀ L : Addr, SOk prog w H 3 (callEnvC fd_law L 157) (locs ((["script"] : List Str) ++ (["ends", "acts", "x", "turned", "rows", "columns", "leads", "deeds", "due", "lead", "first", "second", "shallower", "size", "here", "there", "mirror"] : List Str))) (stAt ((fnParts (item 16)).2.1) 13) f } := ⟨_, fun prog w H K mg mb hm FK L =>
  (S_ret (E_and (E_cmp (by decide) C_eq (E_instMethK hm.kh FK.m_equal (E_name (ok_law L) 11 rfl) FK.fn_equal.keep ((c_equal hm FK).up (by decide)) (A_cons (E_name (ok_law L) 12 rfl) A_nil) (.cons .nil)) (E_name (ok_law L) 17 rfl)) (E_cmp (by decide) C_eq (E_instMethK hm.kh FK.m_less (E_name (ok_law L) 11 rfl) FK.fn_less.keep ((c_less hm FK).up (by decide)) (A_cons (E_name (ok_law L) 12 rfl) A_nil) (.cons .nil)) (E_name (ok_law L) 13 rfl))))⟩
noncomputable def x_law : { f : St → Option Out // ∀ (prog : Program) (w : World) (H : View) (K : Frag) (mg mb : Str → Option Value), Home K H mg mb → Facts K → ∀ L : Addr, XOk prog w H 3 (callEnvC fd_law L 157) (locs ((["script"] : List Str) ++ (["ends", "acts", "x", "turned", "rows", "columns", "leads", "deeds", "due", "lead", "first", "second", "shallower", "size", "here", "there", "mirror"] : List Str))) (fnParts (item 16)).2.1 f } := ⟨_, fun prog w H K mg mb hm FK L =>
  (X_cons (s_law_0.2 prog w H K mg mb hm FK L)
  (X_cons (s_law_1.2 prog w H K mg mb hm FK L)
  (X_cons (s_law_3.2 prog w H K mg mb hm FK L)
  (X_freeze 2 (X_cons (s_law_4.2 prog w H K mg mb hm FK L)
  (X_freeze 4 (X_cons (s_law_5.2 prog w H K mg mb hm FK L)
  (X_cons (s_law_6.2 prog w H K mg mb hm FK L)
  (X_cons (s_law_7.2 prog w H K mg mb hm FK L)
  (X_cons (s_law_11.2 prog w H K mg mb hm FK L)
  (X_freeze 7 (X_cons (s_law_12.2 prog w H K mg mb hm FK L)
  (X_cons (s_law_13.2 prog w H K mg mb hm FK L)
  (X_cons (s_law_14.2 prog w H K mg mb hm FK L)
  (X_cons (s_law_19.2 prog w H K mg mb hm FK L)
  (X_cons (s_law_20.2 prog w H K mg mb hm FK L)
  (X_cons (s_law_21.2 prog w H K mg mb hm FK L)
  X_nil)))))))))))))))))⟩
theorem D_law (hm : Home K H mg mb) (FK : Facts K) : DefOk H 157 fd_law (fnParts (item 16)).2.1 (["script"] : List Str) 18 (fun _ => locs ((["script"] : List Str) ++ (["ends", "acts", "x", "turned", "rows", "columns", "leads", "deeds", "due", "lead", "first", "second", "shallower", "size", "here", "there", "mirror"] : List Str))) := DefOk.locals (["script"] : List Str) (["ends", "acts", "x", "turned", "rows", "columns", "leads", "deeds", "due", "lead", "first", "second", "shallower", "size", "here", "there", "mirror"] : List Str) hm FK.fn_law rfl rfl rfl rfl rfl ok_law (by decide) (by decide)
theorem c_law (hm : Home K H mg mb) (FK : Facts K) : COk prog w H 4 (.ref 157) (callV 1 18 x_law.1) := C_def (D_law hm FK) (fun vs h => by
    match vs, h with
    | [v0], _ => rfl) (x_law.2 prog w H K mg mb hm FK)
end
end
end L01
end Mine
end
section
open PySem PySem.W PyProof.Rows
set_option Elab.async false
set_option maxRecDepth 100000
set_option maxHeartbeats 8000000
namespace Mine
open_top hd01 for PySem.Challenge.rw_pg0161_01

end Mine
end
section
open PySem PySem.W PySem.Calls PyProof.Rows
set_option Elab.async false
set_option maxRecDepth 100000
set_option maxHeartbeats 4000000
namespace Mine
namespace L01
theorem facts (P : Params) : Facts (hd01.heap_39 P) where
  g_replace := by kernel_rfl
  g_quotedata := by kernel_rfl
  g__fix_eols := by kernel_rfl
  g_Whitespace := by kernel_rfl
  g__law_mail := by kernel_rfl
  g__law_due := by kernel_rfl
  g__law_column := by kernel_rfl
  g__twin_re_1 := by kernel_rfl
  g__twin_re_2 := by kernel_rfl
  g_CRLF := by kernel_rfl
  b_len := by kernel_rfl
  b_range := by kernel_rfl
  b_sum := by kernel_rfl
  b_max := by kernel_rfl
  b_tuple := by kernel_rfl
  b_sorted := by kernel_rfl
  fn__fix_eols := ⟨⟨_, rfl, by kernel_rfl⟩, by kernel_rfl, by kernel_rfl⟩
  fn_quotedata := ⟨⟨_, rfl, by kernel_rfl⟩, by kernel_rfl, by kernel_rfl⟩
  fn_replace := ⟨⟨_, rfl, by kernel_rfl⟩, by kernel_rfl, by kernel_rfl⟩
  fn_longest_run_of_spaces := ⟨⟨_, rfl, by kernel_rfl⟩, by kernel_rfl, by kernel_rfl⟩
  fn_indent_level := ⟨⟨_, rfl, by kernel_rfl⟩, by kernel_rfl, by kernel_rfl⟩
  fn_equal := ⟨⟨_, rfl, by kernel_rfl⟩, by kernel_rfl, by kernel_rfl⟩
  fn_less := ⟨⟨_, rfl, by kernel_rfl⟩, by kernel_rfl, by kernel_rfl⟩
  fn___init__ := ⟨⟨_, rfl, by kernel_rfl⟩, by kernel_rfl, by kernel_rfl⟩
  fn__law_mail := ⟨⟨_, rfl, by kernel_rfl⟩, by kernel_rfl, by kernel_rfl⟩
  fn__law_due := ⟨⟨_, rfl, by kernel_rfl⟩, by kernel_rfl, by kernel_rfl⟩
  fn__law_column := ⟨⟨_, rfl, by kernel_rfl⟩, by kernel_rfl, by kernel_rfl⟩
  fn_law := ⟨⟨_, rfl, by kernel_rfl⟩, by kernel_rfl, by kernel_rfl⟩
  k_Whitespace := by kernel_rfl
  p__twin_re_1 := ⟨_, _, _, _, _, _, rfl, rfl, rfl, by kernel_rfl⟩
  p__twin_re_2 := ⟨_, _, _, _, _, _, rfl, rfl, rfl, by kernel_rfl⟩
  mkc := by kernel_rfl
  init := by kernel_rfl
  initf := by kernel_rfl
  r_cls := by kernel_rfl
  f_S := by kernel_rfl
  f_T := by kernel_rfl
  a_raw := ⟨by kernel_rfl, by kernel_rfl, ⟨_, rfl, by kernel_rfl⟩⟩
  s_raw := ⟨by kernel_rfl, by kernel_rfl, by kernel_rfl, by kernel_rfl⟩
  a_n := ⟨by kernel_rfl, by kernel_rfl, ⟨_, rfl, by kernel_rfl⟩⟩
  s_n := ⟨by kernel_rfl, by kernel_rfl, by kernel_rfl, by kernel_rfl⟩
  a_nt := ⟨by kernel_rfl, by kernel_rfl, ⟨_, rfl, by kernel_rfl⟩⟩
  s_nt := ⟨by kernel_rfl, by kernel_rfl, by kernel_rfl, by kernel_rfl⟩
  a_norm := ⟨by kernel_rfl, by kernel_rfl, ⟨_, rfl, by kernel_rfl⟩⟩
  s_norm := ⟨by kernel_rfl, by kernel_rfl, by kernel_rfl, by kernel_rfl⟩
  a_is_simple := ⟨by kernel_rfl, by kernel_rfl, ⟨_, rfl, by kernel_rfl⟩⟩
  s_is_simple := ⟨by kernel_rfl, by kernel_rfl, by kernel_rfl, by kernel_rfl⟩
  m_longest_run_of_spaces := ⟨by kernel_rfl, by kernel_rfl, by kernel_rfl⟩
  m_indent_level := ⟨by kernel_rfl, by kernel_rfl, by kernel_rfl⟩
  m_equal := ⟨by kernel_rfl, by kernel_rfl, by kernel_rfl⟩
  m_less := ⟨by kernel_rfl, by kernel_rfl, by kernel_rfl⟩
end L01
end Mine
end
section
open PySem PySem.W PySem.Calls PyProof.Rows
set_option Elab.async false
set_option maxRecDepth 100000
namespace Mine
noncomputable def eolFix : List Nat → List Nat
  | [] => []
  | [c] => if isEnd c then [13, 10] else [c]
  | c :: e :: r => if isEnd c then (if c = 13 ∧ e = 10 then 13 :: 10 :: eolFix r else 13 :: 10 :: eolFix (e :: r)) else c :: eolFix (e :: r)
theorem eolFix_cons {c : Nat} (h : isEnd c = false) (l : List Nat) : eolFix (c :: l) = c :: eolFix l := by
  cases l with
  | nil => simp [eolFix, h]
  | cons e r => rw [eolFix, h]; simp
theorem eolFix_pre : ∀ (b l : List Nat), (∀ x ∈ b, isEnd x = false) → eolFix (b ++ l) = b ++ eolFix l
  | [], _, _ => rfl
  | x :: b, l, h => by
    rw [List.cons_append, eolFix_cons (h x (by simp)), eolFix_pre b l fun y hy => h y (by simp [hy])]; rfl
theorem eolFix_free (l : List Nat) (h : ∀ x ∈ l, isEnd x = false) : eolFix l = l := by
  have := eolFix_pre l [] h
  rw [List.append_nil] at this
  rw [this, eolFix, List.append_nil]
theorem eolFix_two (r : List Nat) : eolFix (13 :: 10 :: r) = 13 :: 10 :: eolFix r := by simp [eolFix, isEnd]
theorem eolFix_one {c : Nat} (r : List Nat) (h : isEnd c = true) (hn : ¬ (c = 13 ∧ r.head? = some 10)) : eolFix (c :: r) = 13 :: 10 :: eolFix r := by
  cases r with
  | nil => simp [eolFix, h]
  | cons e r =>
    rw [eolFix, h, if_pos rfl, if_neg]
    intro ⟨a, b⟩; exact hn ⟨a, by simp [b]⟩

theorem getD_mid (pre : List Nat) (c : Nat) (r : List Nat) : ((pre ++ c :: r).toArray).getD pre.length 0 = c := by
  simp [Array.getD]
theorem getD_mid1 (pre : List Nat) (c e : Nat) (r : List Nat) : ((pre ++ c :: e :: r).toArray).getD (pre.length + 1) 0 = e := by
  have := getD_mid (pre ++ [c]) e r
  simpa using this
theorem find2_spec : ∀ (l pre : List Nat), (find2 (pre ++ l).toArray (l.length + 1) pre.length = none ∧ ∀ c ∈ l, isEnd c = false) ∨
    ∃ b c r, l = b ++ c :: r ∧ (∀ x ∈ b, isEnd x = false) ∧ isEnd c = true ∧ find2 (pre ++ l).toArray (l.length + 1) pre.length = some (pre.length + b.length)
  | [], pre => .inl ⟨by simp [find2], by simp⟩
  | c :: l, pre => by
    have hs : ¬ pre.length ≥ ((pre ++ c :: l).toArray).size := by simp
    cases hc : isEnd c with
    | true => exact .inr ⟨[], c, l, rfl, by simp, hc, by rw [find2, if_neg hs, getD_mid, hc]; simp⟩
    | false =>
      have e : find2 (pre ++ c :: l).toArray ((c :: l).length + 1) pre.length = find2 ((pre ++ [c]) ++ l).toArray (l.length + 1) (pre ++ [c]).length := by
        rw [find2, if_neg hs, getD_mid, hc]; simp
      rw [e]
      rcases find2_spec l (pre ++ [c]) with ⟨h1, h2⟩ | ⟨b, x, r, rfl, h1, h2, h3⟩
      · refine .inl ⟨h1, ?_⟩
        intro x hx
        rcases List.mem_cons.mp hx with rfl | hx
        · exact hc
        · exact h2 x hx
      · refine .inr ⟨c :: b, x, r, rfl, ?_, h2, ?_⟩
        · intro y hy
          rcases List.mem_cons.mp hy with rfl | hy
          · exact hc
          · exact h1 y hy
        · rw [h3]; simp; omega
theorem len2_at (pre : List Nat) (c : Nat) (r : List Nat) : len2 (pre ++ c :: r).toArray pre.length = if c = 13 ∧ r.head? = some 10 then 2 else 1 := by
  unfold len2
  rw [getD_mid]
  cases r with
  | nil =>
    have : decide (pre.length + 1 < ((pre ++ [c]).toArray).size) = false := by simp
    rw [this]; simp
  | cons x r =>
    have : decide (pre.length + 1 < ((pre ++ c :: x :: r).toArray).size) = true := by simp
    rw [getD_mid1, this]
    by_cases hc : c = 13 <;> by_cases hx : x = 10 <;> simp [hc, hx]
theorem ext_mid (pre b r : List Nat) : (((pre ++ (b ++ r)).toArray).extract pre.length (pre.length + b.length)).toList = b := by
  simp [List.extract, List.drop_append]
theorem ext_end (pre l : List Nat) : (((pre ++ l).toArray).extract pre.length ((pre ++ l).toArray).size).toList = l := by
  simp [List.extract]
theorem subP_F2 : ∀ (n : Nat) (pre l : List Nat), l.length < n → ∃ ps, subP (F2 (pre ++ l).toArray) (pre ++ l).toArray [13, 10] n pre.length = some ps ∧ ps.flatten = eolFix l
  | 0, _, _, h => absurd h (by omega)
  | n + 1, pre, l, h => by
    have hz : (pre ++ l).toArray.size + 1 - pre.length = l.length + 1 := by simp; omega
    rw [subP]
    rcases find2_spec l pre with ⟨h1, h2⟩ | ⟨b, c, r, rfl, h1, h2, h3⟩
    · have e : F2 (pre ++ l).toArray pre.length = none := by unfold F2; rw [hz, h1]; rfl
      rw [e]
      refine ⟨_, rfl, ?_⟩
      rw [eolFix_free l h2]
      split
      · rw [List.flatten_cons, List.flatten_nil, List.append_nil, ext_end]
      · rename_i hh
        have : l = [] := by cases l with | nil => rfl | cons => simp at hh
        subst this; rfl
    · have e : F2 (pre ++ (b ++ c :: r)).toArray pre.length = some (pre.length + b.length, pre.length + b.length + len2 (pre ++ (b ++ c :: r)).toArray (pre.length + b.length)) := by unfold F2; rw [hz, h3]; rfl
      rw [e]
      dsimp only
      have hpc : (if pre.length < pre.length + b.length then [(((pre ++ (b ++ c :: r)).toArray).extract pre.length (pre.length + b.length)).toList] else []).flatten = b := by
        split
        · rw [List.flatten_cons, List.flatten_nil, List.append_nil, ext_mid]
        · rename_i hh
          have : b = [] := by cases b with | nil => rfl | cons => simp at hh
          subst this; rfl
      have hl2 : len2 (pre ++ (b ++ c :: r)).toArray (pre.length + b.length) = if c = 13 ∧ r.head? = some 10 then 2 else 1 := by
        have e1 : pre ++ (b ++ c :: r) = (pre ++ b) ++ c :: r := by simp
        have e2 : pre.length + b.length = (pre ++ b).length := by simp
        rw [e1, e2, len2_at]
      by_cases h2c : c = 13 ∧ r.head? = some 10
      · rw [if_pos h2c] at hl2
        rw [hl2]
        obtain ⟨rfl, hr⟩ := h2c
        cases r with
        | nil => cases hr
        | cons x r =>
          cases hr
          have ih := subP_F2 n (pre ++ b ++ [13, 10]) r (by simp at h; omega)
          have e1 : pre ++ b ++ [13, 10] ++ r = pre ++ (b ++ 13 :: 10 :: r) := by simp
          have e2 : (pre ++ b ++ [13, 10]).length = pre.length + b.length + 2 := by simp; omega
          rw [e1, e2] at ih
          obtain ⟨ps, he, hf⟩ := ih
          rw [he]
          refine ⟨_, rfl, ?_⟩
          rw [List.flatten_append, List.flatten_cons, hpc, hf, eolFix_pre b _ h1, eolFix_two]; rfl
      · rw [if_neg h2c] at hl2
        rw [hl2]
        have ih := subP_F2 n (pre ++ b ++ [c]) r (by simp at h; omega)
        have e1 : pre ++ b ++ [c] ++ r = pre ++ (b ++ c :: r) := by simp
        have e2 : (pre ++ b ++ [c]).length = pre.length + b.length + 1 := by simp; omega
        rw [e1, e2] at ih
        obtain ⟨ps, he, hf⟩ := ih
        rw [he]
        refine ⟨_, rfl, ?_⟩
        rw [List.flatten_append, List.flatten_cons, hpc, hf, eolFix_pre b _ h1, eolFix_one r h2 h2c]; rfl

noncomputable def dotQ : Bool → List Nat → List Nat
  | _, [] => []
  | f, c :: r => if f = true ∧ c = 46 then 46 :: 46 :: dotQ false r else c :: dotQ (c == 10) r
noncomputable def atHead (pre : List Nat) : Bool := match pre.getLast? with
  | some c => c == 10
  | none => true
theorem atHead_snoc (pre : List Nat) (c : Nat) : atHead (pre ++ [c]) = (c == 10) := by simp [atHead]
theorem hit1_at (pre : List Nat) (c : Nat) (r : List Nat) : hit1 (pre ++ c :: r).toArray pre.length = (atHead pre && c == 46) := by
  unfold hit1
  rw [getD_mid]
  have hs : decide (pre.length < ((pre ++ c :: r).toArray).size) = true := by simp
  rw [hs, Bool.true_and]
  congr 1
  rcases List.eq_nil_or_concat pre with rfl | ⟨p, x, rfl⟩
  · rfl
  · simp only [List.concat_eq_append]
    have e : (p ++ [x]) ++ c :: r = p ++ x :: c :: r := by simp
    rw [atHead_snoc, e]
    have e2 : (p ++ [x]).length - 1 = p.length := by simp
    rw [e2, getD_mid]
    simp
theorem hit1_end (pre : List Nat) : hit1 pre.toArray pre.length = false := by
  unfold hit1; simp
theorem find1_spec : ∀ (l pre : List Nat), (find1 (pre ++ l).toArray (l.length + 1) pre.length = none ∧ dotQ (atHead pre) l = l) ∨
    ∃ b r, l = b ++ 46 :: r ∧ dotQ (atHead pre) l = b ++ 46 :: 46 :: dotQ false r ∧ find1 (pre ++ l).toArray (l.length + 1) pre.length = some (pre.length + b.length)
  | [], pre => .inl ⟨by rw [find1, List.append_nil, hit1_end]; rfl, rfl⟩
  | c :: l, pre => by
    cases hc : (atHead pre && c == 46) with
    | true =>
      have h1 : atHead pre = true := by simp at hc; exact hc.1
      have h2 : c = 46 := by simp at hc; exact hc.2
      subst h2
      exact .inr ⟨[], l, rfl, by rw [dotQ, h1]; rfl, by rw [find1, hit1_at, hc]; simp⟩
    | false =>
      have hn : ¬ (atHead pre = true ∧ c = 46) := by simpa using hc
      have e : find1 (pre ++ c :: l).toArray ((c :: l).length + 1) pre.length = find1 ((pre ++ [c]) ++ l).toArray (l.length + 1) (pre ++ [c]).length := by
        rw [find1, hit1_at, hc]; simp
      rw [e, dotQ, if_neg hn, ← atHead_snoc pre c]
      rcases find1_spec l (pre ++ [c]) with ⟨h1, h2⟩ | ⟨b, r, rfl, h1, h3⟩
      · exact .inl ⟨h1, by rw [h2]⟩
      · exact .inr ⟨c :: b, r, rfl, by rw [h1]; rfl, by rw [h3]; simp; omega⟩
theorem subP_F1 : ∀ (n : Nat) (pre l : List Nat), l.length < n → ∃ ps, subP (F1 (pre ++ l).toArray) (pre ++ l).toArray [46, 46] n pre.length = some ps ∧ ps.flatten = dotQ (atHead pre) l
  | 0, _, _, h => absurd h (by omega)
  | n + 1, pre, l, h => by
    have hz : (pre ++ l).toArray.size + 1 - pre.length = l.length + 1 := by simp; omega
    rw [subP]
    rcases find1_spec l pre with ⟨h1, h2⟩ | ⟨b, r, rfl, h1, h3⟩
    · have e : F1 (pre ++ l).toArray pre.length = none := by unfold F1; rw [hz, h1]; rfl
      rw [e]
      refine ⟨_, rfl, ?_⟩
      rw [h2]
      split
      · rw [List.flatten_cons, List.flatten_nil, List.append_nil, ext_end]
      · rename_i hh
        have : l = [] := by cases l with | nil => rfl | cons => simp at hh
        subst this; rfl
    · have e : F1 (pre ++ (b ++ 46 :: r)).toArray pre.length = some (pre.length + b.length, pre.length + b.length + 1) := by unfold F1; rw [hz, h3]; rfl
      rw [e]
      dsimp only
      have hpc : (if pre.length < pre.length + b.length then [(((pre ++ (b ++ 46 :: r)).toArray).extract pre.length (pre.length + b.length)).toList] else []).flatten = b := by
        split
        · rw [List.flatten_cons, List.flatten_nil, List.append_nil, ext_mid]
        · rename_i hh
          have : b = [] := by cases b with | nil => rfl | cons => simp at hh
          subst this; rfl
      have ih := subP_F1 n (pre ++ b ++ [46]) r (by simp at h; omega)
      have e1 : pre ++ b ++ [46] ++ r = pre ++ (b ++ 46 :: r) := by simp
      have e2 : (pre ++ b ++ [46]).length = pre.length + b.length + 1 := by simp; omega
      rw [e1, e2] at ih
      obtain ⟨ps, he, hf⟩ := ih
      rw [he]
      refine ⟨_, rfl, ?_⟩
      rw [List.flatten_append, List.flatten_cons, hpc, hf, h1, atHead_snoc]; rfl
theorem psub2 (x : List Nat) (h : x.length ≤ lim) (h' : (eolFix x).length ≤ lim) : psubV F2 [.str [13, 10], .str x] = some (.str (eolFix x)) := by
  obtain ⟨ps, e, hf⟩ := subP_F2 (x.length + 1) [] x (by omega)
  unfold psubV
  dsimp only
  rw [if_pos ⟨by decide, h⟩]
  have e' : subP (F2 (txt x).cps) (txt x).cps [13, 10] (x.length + 1) 0 = some ps := e
  rw [e']
  show (if (ps.map List.length).sum ≤ lim then some (PV.str ps.flatten) else none) = _
  rw [← List.length_flatten, hf, if_pos h']
theorem psub1 (x : List Nat) (h : x.length ≤ lim) (h' : (dotQ true x).length ≤ lim) : psubV F1 [.str [46, 46], .str x] = some (.str (dotQ true x)) := by
  obtain ⟨ps, e, hf⟩ := subP_F1 (x.length + 1) [] x (by omega)
  unfold psubV
  dsimp only
  rw [if_pos ⟨by decide, h⟩]
  have e' : subP (F1 (txt x).cps) (txt x).cps [46, 46] (x.length + 1) 0 = some ps := e
  rw [e']
  show (if (ps.map List.length).sum ≤ lim then some (PV.str ps.flatten) else none) = _
  have hf' : ps.flatten = dotQ true x := hf
  rw [← List.length_flatten, hf', if_pos h']
end Mine
end
section
open PySem PySem.W PySem.Calls PyProof.Rows
set_option Elab.async false
set_option maxRecDepth 100000
namespace Mine
noncomputable def replS (y z : List Nat) : Nat → List Nat → List Nat
  | _, [] => []
  | s + 1, _ :: r => replS y z s r
  | 0, c :: r => if y.isPrefixOf (c :: r) then z ++ replS y z (y.length - 1) r else c :: replS y z 0 r
theorem replS_skip (y z : List Nat) : ∀ (s : Nat) (l : List Nat), replS y z s l = replS y z 0 (l.drop s)
  | 0, _ => rfl
  | _ + 1, [] => by simp [replS]
  | s + 1, _ :: r => by rw [replS, replS_skip y z s r]; rfl
theorem at_iff (l y : List Nat) (k : Nat) (hy : y ≠ []) : StrLaws.At (txt l) (txt y) (txt l).length k ↔ y.isPrefixOf (l.drop k) = true := by
  rw [List.isPrefixOf_iff_prefix, List.prefix_iff_eq_take]
  unfold StrLaws.At
  rw [StrLaws.subAt_eq, txt_length, txt_length, beq_iff_eq]
  have e1 : (txt l).cps.toList = l := rfl
  have e2 : (txt y).cps.toList = y := rfl
  rw [e1, e2]
  constructor
  · rintro ⟨_, h⟩; exact h.symm
  · intro h
    refine ⟨?_, h.symm⟩
    have hl := congrArg List.length h
    simp at hl
    have : 0 < y.length := List.length_pos_iff.mpr hy
    omega
theorem replS_none (y z l : List Nat) (hy : y ≠ []) : ∀ (m a : Nat), l.length = a + m → (∀ k, a ≤ k → ¬ StrLaws.At (txt l) (txt y) (txt l).length k) → replS y z 0 (l.drop a) = l.drop a
  | 0, a, h, _ => by rw [List.drop_of_length_le (by omega)]; rfl
  | m + 1, a, h, hn => by
    have h0 := hn a (Nat.le_refl _)
    rw [at_iff l y a hy] at h0
    have hd : l.drop a = l[a]'(by omega) :: l.drop (a + 1) := List.drop_eq_getElem_cons (by omega)
    rw [hd] at h0 ⊢
    rw [replS, if_neg h0, replS_none y z l hy m (a + 1) (by omega) fun k hk => hn k (by omega)]
theorem replS_step (y z l : List Nat) (hy : y ≠ []) : ∀ (m a : Nat), (∀ k, a ≤ k → k < a + m → ¬ StrLaws.At (txt l) (txt y) (txt l).length k) → StrLaws.At (txt l) (txt y) (txt l).length (a + m) →
    replS y z 0 (l.drop a) = (l.drop a).take m ++ z ++ replS y z 0 (l.drop (a + m + y.length))
  | 0, a, _, h => by
    rw [at_iff l y _ hy, Nat.add_zero] at h
    obtain ⟨r, hr⟩ := List.isPrefixOf_iff_prefix.mp h
    have hp := h
    have hd : l.drop (a + 0 + y.length) = r := by
      rw [Nat.add_zero, ← List.drop_drop, ← hr]; simp
    rw [hd]
    cases y with
    | nil => exact absurd rfl hy
    | cons c y' =>
      rw [← hr] at h ⊢
      rw [List.cons_append] at h ⊢
      rw [replS, if_pos h, replS_skip]
      simp
  | m + 1, a, hn, h => by
    have h0 := hn a (Nat.le_refl _) (by omega)
    rw [at_iff l y a hy] at h0
    have ha : a < l.length := by have := h.1; rw [txt_length, txt_length] at this; have := List.length_pos_iff.mpr hy; omega
    have hd : l.drop a = l[a]'ha :: l.drop (a + 1) := List.drop_eq_getElem_cons ha
    rw [hd] at h0 ⊢
    have e : a + (m + 1) = a + 1 + m := by omega
    rw [e] at h ⊢
    rw [replS, if_neg h0, replS_step y z l hy m (a + 1) (fun k h1 h2 => hn k (by omega) (by omega)) h]
    rfl
theorem sub_list (l : List Nat) (a b : Nat) : (Builtin.Str.strSub (txt l) a b).cps.toList = (l.drop a).take (b - a) := StrLaws.strSub_toList (txt l) a b
theorem joinL_cons (z p : List Nat) {ps : List (List Nat)} (h : ps ≠ []) : joinL z (p :: ps) = p ++ z ++ joinL z ps := by
  cases ps with
  | nil => exact absurd rfl h
  | cons => rfl
theorem parts_repl (y z l : List Nat) (hy : y ≠ []) : ∀ (cuts : List Nat) (a f : Nat), a ≤ l.length → StrLaws.ChainG (txt l) (txt y) (txt l).length a cuts f → (∀ k, f ≤ k → ¬ StrLaws.At (txt l) (txt y) (txt l).length k) →
    joinL z ((StrLaws.partsFrom (txt l) (txt y).length a cuts).map fun p => p.cps.toList) = replS y z 0 (l.drop a)
  | [], a, f, ha, h, hn => by
    have e : f = a := h
    subst e
    show joinL z [(Builtin.Str.strSub (txt l) f (txt l).length).cps.toList] = _
    rw [joinL, sub_list, replS_none y z l hy (l.length - f) f (by omega) hn, txt_length, List.take_of_length_le (by simp)]
  | c :: r, a, f, ha, h, hn => by
    obtain ⟨h1, h2, h3, h4⟩ := h
    have hc : c + y.length ≤ l.length := by have := h2.1; rw [txt_length, txt_length] at this; exact this
    show joinL z ((Builtin.Str.strSub (txt l) a c).cps.toList :: _) = _
    obtain ⟨p, q, e⟩ := StrLaws.partsFrom_ne (txt l) (txt y).length (c + (txt y).length) r
    have ih := parts_repl y z l hy r (c + (txt y).length) f (by rw [txt_length]; exact hc) h4 hn
    rw [joinL_cons _ _ (by rw [e]; simp), ih, sub_list, txt_length]
    have e2 : c = a + (c - a) := by omega
    rw [replS_step y z l hy (c - a) a (fun k k1 k2 => h3 k k1 (by omega)) (by rw [← e2]; exact h2), ← e2]
theorem split_repl (y z l : List Nat) (hy : y ≠ []) (hk : Builtin.Str.strKind (txt y) = 1) : joinL z ((Txt.split (txt l) (txt y)).map fun p => p.cps.toList) = replS y z 0 l := by
  obtain ⟨f, hG, hn⟩ := StrLaws.occ_tight (txt l) (txt y) (by rw [txt_length]; exact List.length_pos_iff.mpr hy)
  have hk1 : ¬ Builtin.Str.strKind (txt l) < 1 := by unfold Builtin.Str.strKind; split <;> (try split) <;> omega
  have one : (∀ k, ¬ StrLaws.At (txt l) (txt y) (txt l).length k) → joinL z ([txt l].map fun p => p.cps.toList) = replS y z 0 l := fun h => by
    have := replS_none y z l hy l.length 0 (by omega) fun k _ => h k
    rw [List.drop_zero] at this
    rw [this]; rfl
  unfold Txt.split
  split
  · rename_i hc
    refine one fun k hA => ?_
    rw [hk, Bool.or_eq_true, decide_eq_true_eq, decide_eq_true_eq] at hc
    rcases hc with h | h
    · have := hA.1; omega
    · exact hk1 h
  · split
    · rename_i he
      have e0 : Builtin.Str.occurrences (txt l) (txt y) 0 (txt l).length ((txt l).length + 1) = [] := List.isEmpty_iff.mp he
      rw [e0] at hG
      have ef : f = 0 := hG
      subst ef
      exact one fun k => hn k (Nat.zero_le _)
    · rw [StrLaws.partsBetween_eq, parts_repl y z l hy _ 0 f (Nat.zero_le _) hG hn]
      rfl
end Mine
end
section
open PySem PySem.W PySem.Calls PyProof.Rows
set_option Elab.async false
set_option maxRecDepth 100000
namespace Mine
theorem forV_rel {β γ : Type} {bind : St → PV → Option St} {fb : St → Option Out} (enc : γ → PV) (step : β → γ → β) (R : β → St → Prop) : ∀ (ds : List γ) (s : β) (σ : St), R s σ →
    (∀ s σ x, x ∈ ds → R s σ → ∃ σ1 σ2, bind σ (enc x) = some σ1 ∧ fb σ1 = some (.next σ2) ∧ R (step s x) σ2) → ∃ σ', forV bind fb σ (ds.map enc) = some (.next σ') ∧ R (ds.foldl step s) σ'
  | [], s, σ, h, _ => ⟨σ, rfl, h⟩
  | x :: ds, s, σ, h, H => by
    obtain ⟨σ1, σ2, e1, e2, h2⟩ := H s σ x (by simp) h
    obtain ⟨σ', e3, h3⟩ := forV_rel enc step R ds (step s x) σ2 h2 fun s σ y hy => H s σ y (by simp [hy])
    refine ⟨σ', ?_, h3⟩
    rw [List.map_cons, forV, e1]
    dsimp only
    rw [e2]
    exact e3
theorem forV_any {γ : Type} {bind : St → PV → Option St} {fb : St → Option Out} (enc : γ → PV) (c : γ → Bool) (d : PV) (R : St → Prop) : ∀ (ds : List γ) (σ : St), R σ →
    (∀ σ x, x ∈ ds → R σ → ∃ σ1, bind σ (enc x) = some σ1 ∧ (if c x then fb σ1 = some (.ret d) else ∃ σ2, fb σ1 = some (.next σ2) ∧ R σ2)) →
    if ds.any c then forV bind fb σ (ds.map enc) = some (.ret d) else ∃ σ', forV bind fb σ (ds.map enc) = some (.next σ') ∧ R σ'
  | [], σ, h, _ => ⟨σ, rfl, h⟩
  | x :: ds, σ, h, H => by
    obtain ⟨σ1, e1, e2⟩ := H σ x (by simp) h
    rw [List.any_cons, List.map_cons, forV, e1]
    dsimp only
    cases hc : c x with
    | true =>
      rw [hc, if_pos rfl] at e2
      rw [e2]; rfl
    | false =>
      rw [hc, if_neg Bool.false_ne_true] at e2
      obtain ⟨σ2, e2, h2⟩ := e2
      rw [e2, Bool.false_or]
      exact forV_any enc c d R ds σ2 h2 fun σ y hy => H σ y (by simp [hy])
theorem compV_rel {γ : Type} {bind : St → PV → Option St} {ft : St → Option Bool} {fe : St → Option PV} (enc : γ → PV) (p : γ → Bool) (f : γ → PV) (R : St → Prop) : ∀ (ds : List γ) (σ : St), R σ →
    (∀ σ x, x ∈ ds → R σ → ∃ σ1, bind σ (enc x) = some σ1 ∧ ft σ1 = some (p x) ∧ (p x = true → fe σ1 = some (f x)) ∧ R σ1) → compV bind ft fe σ (ds.map enc) = some ((ds.filter p).map f)
  | [], σ, _, _ => rfl
  | x :: ds, σ, h, H => by
    obtain ⟨σ1, e1, e2, e3, h2⟩ := H σ x (by simp) h
    have ih := compV_rel enc p f R ds σ1 h2 fun σ y hy => H σ y (by simp [hy])
    rw [List.map_cons, compV, e1]
    dsimp only
    rw [e2]
    cases hp : p x with
    | true =>
      dsimp only
      rw [e3 hp, ih, List.filter_cons_of_pos hp]; rfl
    | false =>
      dsimp only
      rw [ih, List.filter_cons_of_neg (by simp [hp])]
theorem seqf_next {fs fr : St → Option Out} {σ σ' : St} (h : fs σ = some (.next σ')) : seqf fs fr σ = fr σ' := by unfold seqf; rw [h]
theorem seqf_ret {fs fr : St → Option Out} {σ : St} {d : PV} (h : fs σ = some (.ret d)) : seqf fs fr σ = some (.ret d) := by unfold seqf; rw [h]
theorem small_of {a : Int} (h : -1000000 < a) (h' : a < 1000000) : small a = true := by
  unfold small; rw [big_eq]; exact decide_eq_true ⟨by omega, by omega⟩
theorem big_gt {a : Int} (h' : a < 1000000) : a < big := by rw [big_eq]; omega
theorem lim_ge {a : Nat} (h : a ≤ 1000000) : a ≤ lim := by rw [lim_eq]; omega
theorem lim_gt {a : Nat} (h : a < 1000000) : a < lim := by rw [lim_eq]; omega
theorem intsOf_map : ∀ l : List Int, intsOf (l.map PV.int) = some l
  | [] => rfl
  | a :: r => by rw [List.map_cons, intsOf, intsOf_map r]; rfl
theorem strsOf_map : ∀ l : List (List Nat), strsOf (l.map PV.str) = some l
  | [] => rfl
  | a :: r => by rw [List.map_cons, strsOf, strsOf_map r]; rfl

theorem eqOks_ints : ∀ (l : List Int) (n : Nat), eqOks (l.map PV.int) n = true
  | [], n => by rw [List.map_nil, eqOks]
  | a :: r, n => by rw [List.map_cons, eqOks, eqOks_ints r n, eqOk]; rfl
theorem eqvAll_ints : ∀ (l k : List Int), PyData.eqvAll (toPys (l.map PV.int)) (toPys (k.map PV.int)) = decide (l = k)
  | [], [] => by simp [toPys, PyData.eqvAll]
  | [], b :: k => by simp [toPys, PyData.eqvAll]
  | a :: l, [] => by simp [toPys, PyData.eqvAll]
  | a :: l, b :: k => by
    rw [List.map_cons, List.map_cons, toPys, toPys, toPy, toPy, PyData.eqvAll, PyData.eqv, eqvAll_ints l k]
    by_cases h : a = b <;> by_cases h2 : l = k <;> simp [h, h2]
theorem eqV_ints (l k : List Int) : eqV (.list (l.map .int)) (.list (k.map .int)) = some (decide (l = k)) := by
  unfold eqV
  have h : ∀ l : List Int, eqOk (.list (l.map .int)) 8 = true := fun l => by rw [eqOk, eqOks_ints]; rfl
  simp only [h, Bool.and_self, if_true]
  rw [toPy, toPy, PyData.eqv, eqvAll_ints]
theorem eqV_norm (l k : List Int) : eqV (.tup [.tup (l.map .int), .int 0]) (.tup [.tup (k.map .int), .int 0]) = some (decide (l = k)) := by
  unfold eqV
  have h : ∀ l : List Int, eqOk (.tup [.tup (l.map .int), .int 0]) 8 = true := fun l => by
    rw [eqOk, eqOks, eqOks, eqOks, eqOk, eqOk, eqOks_ints]; rfl
  simp only [h, Bool.and_self, if_true]
  simp only [toPy, toPys, PyData.eqv, PyData.eqvAll, eqvAll_ints]
  simp
theorem eqV_int (a b : Int) : eqV (.int a) (.int b) = some (decide (a = b)) := by
  simp [eqV, eqOk, toPy, PyData.eqv]
  rfl
theorem eqV_bool (a b : Bool) : eqV (.bool a) (.bool b) = some (a == b) := by
  simp [eqV, eqOk, toPy, PyData.eqv]
theorem eqV_str (a b : List Nat) : eqV (.str a) (.str b) = some (decide (a = b)) := rfl

noncomputable def top : List Nat → Nat
  | [] => 0
  | d :: r => max (d + 1) (top r)
theorem top_le {r : List Nat} {n : Nat} : top r ≤ n ↔ ∀ d ∈ r, d < n := by
  induction r with
  | nil => simp [top]
  | cons d r ih => rw [top, Nat.max_le, ih]; simp; omega
theorem lt_top {r : List Nat} {d : Nat} (h : d ∈ r) : d < top r := top_le.mp (Nat.le_refl _) d h
theorem top_perm {r s : List Nat} (h : r.Perm s) : top r = top s :=
  Nat.le_antisymm (top_le.mpr fun d hd => lt_top (h.mem_iff.mp hd)) (top_le.mpr fun d hd => lt_top (h.mem_iff.mpr hd))
theorem top_snoc (r : List Nat) (d : Nat) : top (r ++ [d]) = max (top r) (d + 1) := by
  induction r with
  | nil => simp [top]
  | cons x r ih => rw [List.cons_append, top, ih, top, Nat.max_assoc]
noncomputable def hist (r : List Nat) : List Int := (List.range (top r)).map fun k => ((r.count k : Nat) : Int)
theorem hist_len (r : List Nat) : (hist r).length = top r := by simp [hist]
theorem count_top {r : List Nat} {k : Nat} (h : top r ≤ k) : r.count k = 0 := List.count_eq_zero.mpr fun hm => by have := lt_top hm; omega
theorem hist_getD (r : List Nat) (k : Nat) : (hist r).getD k 0 = r.count k := by
  unfold hist
  rw [List.getD_eq_getElem?_getD, List.getElem?_map]
  by_cases h : k < top r
  · rw [List.getElem?_range h]; rfl
  · rw [List.getElem?_eq_none (by simpa using h), count_top (by omega)]; rfl
theorem hist_get {r : List Nat} {k : Nat} (h : k < top r) : (hist r)[k]? = some ((r.count k : Nat) : Int) := by
  unfold hist
  rw [List.getElem?_map, List.getElem?_range h]; rfl
theorem ext_getD {a b : List Int} (hl : a.length = b.length) (h : ∀ k, a.getD k 0 = b.getD k 0) : a = b := by
  apply List.ext_getElem hl
  intro i h1 h2
  have := h i
  rwa [List.getD_eq_getElem?_getD, List.getD_eq_getElem?_getD, List.getElem?_eq_getElem h1, List.getElem?_eq_getElem h2] at this
theorem hist_inj {r s : List Nat} : hist r = hist s ↔ r.Perm s := by
  constructor
  · intro h
    rw [List.perm_iff_count]
    intro k
    have := congrArg (fun l : List Int => l.getD k 0) h
    simp only [hist_getD] at this
    exact_mod_cast this
  · intro h
    unfold hist
    rw [top_perm h]
    exact List.map_congr_left fun k _ => by rw [h.count_eq]
theorem zero_sum {α : Type} : ∀ l : List α, (l.map fun _ => 0).sum = 0
  | [] => rfl
  | a :: r => by rw [List.map_cons, List.sum_cons, zero_sum r]
theorem delta_sum (f : Nat → Nat) (d : Nat) : ∀ N, d < N → ((List.range N).map fun i => f i * if d = i then 1 else 0).sum = f d := by
  have z : ∀ N, N ≤ d → ((List.range N).map fun i => f i * if d = i then 1 else 0).sum = 0 := by
    intro N
    induction N with
    | zero => intro _; rfl
    | succ N ih => intro h; rw [List.range_succ, List.map_append, List.sum_append, ih (by omega)]; rw [List.map_singleton, List.sum_singleton, if_neg (by omega), Nat.mul_zero]
  intro N
  induction N with
  | zero => intro h; omega
  | succ N ih =>
    intro h
    rw [List.range_succ, List.map_append, List.sum_append]
    by_cases e : d = N
    · subst e; rw [z d (Nat.le_refl _)]; simp
    · rw [ih (by omega)]; simp [e]
theorem sum_map_add {α : Type} (f g : α → Nat) : ∀ l : List α, (l.map fun i => f i + g i).sum = (l.map f).sum + (l.map g).sum
  | [] => rfl
  | a :: r => by simp only [List.map_cons, List.sum_cons, sum_map_add f g r]; omega
theorem cnt_sum (f : Nat → Nat) : ∀ (r : List Nat) (N : Nat), (∀ d ∈ r, d < N) → ((List.range N).map fun i => f i * r.count i).sum = (r.map f).sum
  | [], N, _ => by
    have : (fun i => f i * ([] : List Nat).count i) = fun _ => 0 := by funext i; simp
    rw [this, zero_sum]; rfl
  | d :: r, N, h => by
    have e : (fun i => f i * (d :: r).count i) = fun i => f i * r.count i + f i * if d = i then 1 else 0 := by
      funext i
      rw [List.count_cons, Nat.mul_add]
      simp [beq_iff_eq]
    rw [e, sum_map_add, cnt_sum f r N fun x hx => h x (by simp [hx]), delta_sum f d N (h d (by simp)), List.map_cons, List.sum_cons, Nat.add_comm]
noncomputable def ilv (r : List Nat) (t : Nat) : Nat := t * ((r.map (· / t)).sum + r.length)
theorem il_sum (r : List Nat) (t : Nat) : ((List.range (top r - t)).map fun i => (t + i) / t * r.count (t + i)).sum = (r.map (· / t)).sum := by
  rw [← cnt_sum (· / t) r (top r) fun d hd => lt_top hd]
  by_cases h : t ≤ top r
  · have e : top r = t + (top r - t) := by omega
    have e2 : List.range (top r) = List.range t ++ (List.range (top r - t)).map (t + ·) := by
      conv => lhs; rw [e]
      rw [List.range_add]
    rw [e2, List.map_append, List.sum_append, List.map_map]
    have z : ((List.range t).map fun i => i / t * r.count i).sum = 0 := by
      have : (List.range t).map (fun i => i / t * r.count i) = (List.range t).map fun _ => 0 := List.map_congr_left fun i hi => by
        rw [Nat.div_eq_of_lt (List.mem_range.mp hi), Nat.zero_mul]
      rw [this, zero_sum]
    rw [z, Nat.zero_add]; rfl
  · have e0 : top r - t = 0 := by omega
    rw [e0]
    have : (List.range (top r)).map (fun i => i / t * r.count i) = (List.range (top r)).map fun _ => 0 := List.map_congr_left fun i hi => by
      rw [Nat.div_eq_of_lt (by have := List.mem_range.mp hi; omega), Nat.zero_mul]
    rw [this, zero_sum]; rfl
end Mine
end
section
open PySem PySem.W PySem.Calls PyProof.Rows
set_option Elab.async false
set_option maxRecDepth 100000
namespace Mine
theorem forV_pre {γ : Type} {bind : St → PV → Option St} {fb : St → Option Out} (enc : γ → PV) (R : List γ → St → Prop) : ∀ (ds done : List γ) (σ : St), R done σ →
    (∀ pre x suf σ, done ++ ds = pre ++ x :: suf → R pre σ → ∃ σ1 σ2, bind σ (enc x) = some σ1 ∧ fb σ1 = some (.next σ2) ∧ R (pre ++ [x]) σ2) → ∃ σ', forV bind fb σ (ds.map enc) = some (.next σ') ∧ R (done ++ ds) σ'
  | [], done, σ, h, _ => ⟨σ, rfl, by rw [List.append_nil]; exact h⟩
  | x :: ds, done, σ, h, H => by
    obtain ⟨σ1, σ2, e1, e2, h2⟩ := H done x ds σ rfl h
    have ea : done ++ x :: ds = (done ++ [x]) ++ ds := by simp
    obtain ⟨σ', e3, h3⟩ := forV_pre enc R ds (done ++ [x]) σ2 h2 fun pre y suf σ e => H pre y suf σ (by rw [ea]; exact e)
    refine ⟨σ', ?_, by rw [ea]; exact h3⟩
    rw [List.map_cons, forV, e1]
    dsimp only
    rw [e2]
    exact e3
theorem consf_of {fa : St → Option PV} {fs : St → Option (List PV)} {σ : St} {x : PV} {xs : List PV} (ha : fa σ = some x) (hs : fs σ = some xs) : consf fa fs σ = some (x :: xs) := by unfold consf; rw [ha]; dsimp only; rw [hs]
theorem opf_of {α : Type} {G : PV → PV → Option α} {fa fb : St → Option PV} {σ : St} {x y : PV} (ha : fa σ = some x) (hb : fb σ = some y) : opf G fa fb σ = G x y := by unfold opf; rw [ha]; dsimp only; rw [hb]
theorem callf_of {F : List PV → Option PV} {fs : St → Option (List PV)} {σ : St} {ds : List PV} (h : fs σ = some ds) : callf F fs σ = F ds := by unfold callf; rw [h]; rfl
noncomputable def crl : List Nat → List Nat
  | [] => []
  | d :: r => List.replicate d 46 ++ 13 :: 10 :: crl r
noncomputable def dl : List Nat → List Nat
  | [] => []
  | d :: r => List.replicate d 46 ++ 9 :: dl r
noncomputable def lead : List Nat → List Nat
  | [] => []
  | d :: r => List.replicate d 32 ++ 9 :: lead r
noncomputable def up (d : Nat) : Nat := if d = 0 then 0 else d + 1
theorem lead_len : ∀ r, (lead r).length = r.sum + r.length
  | [] => rfl
  | d :: r => by simp [lead, lead_len r]; omega
theorem eolFix_len : ∀ t : List Nat, (eolFix t).length ≤ 2 * t.length
  | [] => by simp [eolFix]
  | [c] => by rw [eolFix]; split <;> simp
  | c :: e :: r => by
    rw [eolFix]
    have h1 := eolFix_len r
    have h2 := eolFix_len (e :: r)
    simp only [List.length_cons] at h2 ⊢
    split
    · split <;> simp only [List.length_cons] <;> omega
    · simp only [List.length_cons]; omega
theorem dotQ_len : ∀ (f : Bool) (t : List Nat), (dotQ f t).length ≤ 2 * t.length
  | _, [] => by simp [dotQ]
  | f, c :: r => by
    rw [dotQ]
    have h1 := dotQ_len false r
    have h2 := dotQ_len (c == 10) r
    split <;> simp only [List.length_cons] <;> omega
theorem replS_len (y z : List Nat) (hz : z.length ≤ 1) : ∀ (s : Nat) (l : List Nat), (replS y z s l).length ≤ l.length
  | _, [] => by simp [replS]
  | s + 1, _ :: r => by rw [replS]; have := replS_len y z hz s r; simp only [List.length_cons]; omega
  | 0, c :: r => by
    rw [replS]
    have h1 := replS_len y z hz (y.length - 1) r
    have h2 := replS_len y z hz 0 r
    split
    · rw [List.length_append]; simp only [List.length_cons]; omega
    · simp only [List.length_cons]; omega
theorem dotQ_dots : ∀ (d : Nat) (t : List Nat), dotQ false (List.replicate d 46 ++ 13 :: 10 :: t) = List.replicate d 46 ++ 13 :: 10 :: dotQ true t
  | 0, t => by simp [dotQ]
  | d + 1, t => by
    rw [List.replicate_succ, List.cons_append, dotQ, if_neg (by simp)]
    have : ((46 : Nat) == 10) = false := rfl
    rw [this, dotQ_dots d t]; rfl
theorem dotQ_crl : ∀ r, dotQ true (crl r) = crl (r.map up)
  | [] => rfl
  | 0 :: r => by
    show dotQ true (13 :: 10 :: crl r) = 13 :: 10 :: crl (r.map up)
    rw [← dotQ_crl r]; simp [dotQ]
  | (d + 1) :: r => by
    show dotQ true (46 :: (List.replicate d 46 ++ 13 :: 10 :: crl r)) = List.replicate (d + 2) 46 ++ 13 :: 10 :: crl (r.map up)
    rw [dotQ, if_pos ⟨rfl, rfl⟩, dotQ_dots, dotQ_crl r]; rfl
theorem repl_dots3 (t : List Nat) : ∀ d, replS [46, 13, 10] [9] 0 (List.replicate (d + 1) 46 ++ 13 :: 10 :: t) = List.replicate d 46 ++ 9 :: replS [46, 13, 10] [9] 0 t
  | 0 => by simp [replS, List.isPrefixOf]
  | d + 1 => by
    rw [List.replicate_succ, List.cons_append, replS, if_neg, repl_dots3 t d]
    · rfl
    · rw [List.replicate_succ]; simp [List.isPrefixOf]
theorem repl_crl3 : ∀ r : List Nat, replS [46, 13, 10] [9] 0 (crl (r.map (· + 1))) = dl r
  | [] => rfl
  | d :: r => by rw [List.map_cons, crl, repl_dots3, repl_crl3 r]; rfl
theorem repl_dl : ∀ r, replS [46] [32] 0 (dl r) = lead r
  | [] => rfl
  | d :: r => by
    have h : ∀ (t : List Nat) (d : Nat), replS [46] [32] 0 (List.replicate d 46 ++ t) = List.replicate d 32 ++ replS [46] [32] 0 t := by
      intro t d
      induction d with
      | zero => rfl
      | succ d ih => rw [List.replicate_succ, List.cons_append, replS, if_pos (by simp [List.isPrefixOf]), replS_skip, List.length_singleton, List.drop_zero, ih]; rfl
    rw [dl, h, lead, ← repl_dl r]
    simp [replS, List.isPrefixOf]
noncomputable def isE (e : List Nat) : Prop := e = [10] ∨ e = [13] ∨ e = [13, 10]
noncomputable def okR (x : Nat × List Nat) : Prop := isE x.2 ∧ (x.1 = 0 → x.2 = [13, 10])
noncomputable def mt : List (Nat × List Nat) → List Nat
  | [] => []
  | x :: r => List.replicate x.1 46 ++ (x.2 ++ mt r)
theorem mt_append : ∀ a b, mt (a ++ b) = mt a ++ mt b
  | [], _ => rfl
  | x :: a, b => by rw [List.cons_append, mt, mt, mt_append a b]; simp
theorem mt_crl : ∀ r : List Nat, mt (r.map fun d => (d, [13, 10])) = crl r
  | [] => rfl
  | d :: r => by rw [List.map_cons, mt, mt_crl r]; rfl
theorem mt_head : ∀ r : List (Nat × List Nat), (∀ x ∈ r, okR x) → (mt r).head? ≠ some 10
  | [], _ => by simp [mt]
  | (0, e) :: r, h => by
    have := (h (0, e) (by simp)).2 rfl
    dsimp only at this
    subst this
    simp [mt]
  | (d + 1, e) :: r, h => by simp [mt, List.replicate_succ]
theorem eolFix_mt : ∀ r : List (Nat × List Nat), (∀ x ∈ r, okR x) → eolFix (mt r) = crl (r.map (·.1))
  | [], _ => rfl
  | (d, e) :: r, h => by
    have hr : ∀ x ∈ r, okR x := fun x hx => h x (by simp [hx])
    have hh := mt_head r hr
    have ih := eolFix_mt r hr
    have he : isE e := (h (d, e) (by simp)).1
    rw [mt, eolFix_pre _ _ (fun x hx => by rw [List.eq_of_mem_replicate hx]; rfl), List.map_cons, crl, ← ih]
    dsimp only
    congr 1
    rcases he with rfl | rfl | rfl
    · exact eolFix_one _ rfl (by simp)
    · exact eolFix_one _ rfl (fun q => hh q.2)
    · exact eolFix_two _
theorem mt_len : ∀ (r : List (Nat × List Nat)), (∀ x ∈ r, isE x.2) → (mt r).length ≤ (r.map (·.1)).sum + 2 * r.length
  | [], _ => by simp [mt]
  | (d, e) :: r, h => by
    have ih := mt_len r fun x hx => h x (by simp [hx])
    have he : e.length ≤ 2 := by
      have he : isE e := h (d, e) (by simp)
      rcases he with rfl | rfl | rfl <;> simp
    simp only [mt, List.length_append, List.length_replicate, List.map_cons, List.sum_cons, List.length_cons]
    omega
theorem sum_le {n : Nat} : ∀ l : List Nat, (∀ x ∈ l, x ≤ n) → l.sum ≤ l.length * n
  | [], _ => by simp
  | a :: r, h => by
    have := sum_le r fun x hx => h x (by simp [hx])
    have := h a (by simp)
    simp only [List.sum_cons, List.length_cons, Nat.add_mul]
    omega
end Mine
end
section
open PySem PySem.W PySem.Calls PyProof.Rows
set_option Elab.async false
set_option maxRecDepth 100000
namespace Mine
noncomputable def ones : List Bool → Nat
  | [] => 0
  | k :: w => (if k then 1 else 0) + ones w
noncomputable def zeros : List Bool → Nat
  | [] => 0
  | k :: w => (if k then 0 else 1) + zeros w
noncomputable def Zw : List Bool → List Nat
  | [] => []
  | k :: w => if k then Zw w else ones w :: Zw w
noncomputable def dual (w : List Bool) : List Bool := (w.map not).reverse
theorem dual_cons (k : Bool) (w : List Bool) : dual (k :: w) = dual w ++ [!k] := by simp [dual]
theorem dual_dual (w : List Bool) : dual (dual w) = w := by
  unfold dual
  rw [List.map_reverse, List.reverse_reverse, List.map_map]
  have : (not ∘ not) = id := by funext b; simp
  rw [this, List.map_id]
theorem dual_len (w : List Bool) : (dual w).length = w.length := by simp [dual]
theorem ones_app : ∀ a b, ones (a ++ b) = ones a + ones b
  | [], b => by simp [ones]
  | k :: a, b => by rw [List.cons_append, ones, ones, ones_app a b]; omega
theorem zeros_app : ∀ a b, zeros (a ++ b) = zeros a + zeros b
  | [], b => by simp [zeros]
  | k :: a, b => by rw [List.cons_append, zeros, zeros, zeros_app a b]; omega
theorem len_oz : ∀ w, w.length = zeros w + ones w
  | [] => rfl
  | k :: w => by rw [List.length_cons, len_oz w, zeros, ones]; cases k <;> simp <;> omega
theorem zeros_dual : ∀ w, zeros (dual w) = ones w
  | [] => rfl
  | k :: w => by rw [dual_cons, zeros_app, zeros_dual w, ones]; cases k <;> simp [zeros]; omega
theorem ones_dual (w : List Bool) : ones (dual w) = zeros w := by rw [← zeros_dual, dual_dual]
theorem Zw_len : ∀ w, (Zw w).length = zeros w
  | [] => rfl
  | true :: w => by simp [Zw, zeros, Zw_len w]
  | false :: w => by simp [Zw, zeros, Zw_len w]; omega
theorem Zw_le : ∀ w, ∀ d ∈ Zw w, d ≤ ones w
  | true :: w, d, h => by have := Zw_le w d (by simpa [Zw] using h); simp [ones]; omega
  | false :: w, d, h => by
    simp only [Zw, Bool.false_eq_true, if_false, List.mem_cons] at h
    simp only [ones, Bool.false_eq_true, if_false, Nat.zero_add]
    rcases h with rfl | h
    · exact Nat.le_refl _
    · exact Zw_le w d h
theorem Zw_sorted : ∀ w, (Zw w).Pairwise (· ≥ ·)
  | [] => .nil
  | true :: w => by simpa [Zw] using Zw_sorted w
  | false :: w => by
    simp only [Zw, Bool.false_eq_true, if_false]
    exact .cons (fun d hd => Zw_le w d hd) (Zw_sorted w)
theorem Zw_true : ∀ u, Zw (u ++ [true]) = (Zw u).map (· + 1)
  | [] => rfl
  | true :: u => by simp [Zw, Zw_true u]
  | false :: u => by simp [Zw, Zw_true u, ones_app, ones]
theorem Zw_false : ∀ u, Zw (u ++ [false]) = Zw u ++ [0]
  | [] => rfl
  | true :: u => by simp [Zw, Zw_false u]
  | false :: u => by simp [Zw, Zw_false u, ones_app, ones]
theorem Zw_inj : ∀ u v : List Bool, u.length = v.length → Zw u = Zw v → u = v
  | [], [], _, _ => rfl
  | [], _ :: _, h, _ => by simp at h
  | _ :: _, [], h, _ => by simp at h
  | true :: u, true :: v, h, e => by rw [Zw_inj u v (by simpa using h) (by simpa [Zw] using e)]
  | false :: u, false :: v, h, e => by
    have e' : ones u :: Zw u = ones v :: Zw v := by simpa [Zw] using e
    rw [Zw_inj u v (by simpa using h) (by injection e')]
  | true :: u, false :: v, h, e => by
    exfalso
    have e' : Zw u = ones v :: Zw v := by simpa [Zw] using e
    have h1 := congrArg List.length e'
    rw [List.length_cons, Zw_len, Zw_len] at h1
    have h2 := len_oz u
    have h3 := len_oz v
    simp only [List.length_cons] at h
    have := Zw_le u (ones v) (by rw [e']; simp)
    omega
  | false :: u, true :: v, h, e => by
    exfalso
    have e' : ones u :: Zw u = Zw v := by simpa [Zw] using e
    have h1 := congrArg List.length e'
    rw [List.length_cons, Zw_len, Zw_len] at h1
    have h2 := len_oz u
    have h3 := len_oz v
    simp only [List.length_cons] at h
    have := Zw_le v (ones u) (by rw [← e']; simp)
    omega
noncomputable def met (s : Nat) (L : List Nat) : List Nat := ((List.range L.length).filter fun k => (k + 1) % s == 0).map fun k => L.getD k 0
theorem met_snoc (s : Nat) (l : List Nat) (a : Nat) : (met s (l ++ [a])).sum = (met s l).sum + if (l.length + 1) % s = 0 then a else 0 := by
  unfold met
  rw [List.length_append, List.length_singleton, List.range_succ, List.filter_append, List.map_append, List.sum_append]
  congr 1
  · congr 1
    apply List.map_congr_left
    intro k hk
    have hk' : k < l.length := List.mem_range.mp (List.mem_filter.mp hk).1
    rw [List.getD_eq_getElem?_getD, List.getD_eq_getElem?_getD, List.getElem?_append_left hk']
  · by_cases h : (l.length + 1) % s = 0
    · simp [List.filter_cons, h]
    · simp [List.filter_cons, h]
theorem div_succ (n s : Nat) (hs : 0 < s) : (n + 1) / s = n / s + if (n + 1) % s = 0 then 1 else 0 := by
  have h1 := Nat.div_add_mod n s
  have h2 := Nat.mod_lt n hs
  by_cases h : n % s + 1 = s
  · have e : n + 1 = s * (n / s + 1) := by rw [Nat.mul_add, Nat.mul_one]; omega
    rw [e, Nat.mul_div_cancel_left _ hs, Nat.mul_mod_right, if_pos rfl]
  · have hm : (n + 1) % s = n % s + 1 := by
      have e : n + 1 = s * (n / s) + (n % s + 1) := by omega
      rw [e, Nat.mul_add_mod, Nat.mod_eq_of_lt (by omega)]
    have e : (n + 1) / s = n / s := by
      have h3 := Nat.div_add_mod (n + 1) s
      rw [hm] at h3
      have : s * ((n + 1) / s) = s * (n / s) := by omega
      exact Nat.eq_of_mul_eq_mul_left hs this
    rw [e, hm, if_neg (by omega)]; rfl
theorem met_up (s : Nat) (hs : 0 < s) (L : List Nat) : (met s (L.map (· + 1))).sum = (met s L).sum + L.length / s := by
  have key : ∀ (n : Nat) (L : List Nat), L.length = n → (met s (L.map (· + 1))).sum = (met s L).sum + L.length / s := by
    intro n
    induction n with
    | zero =>
      intro L h
      have : L = [] := List.length_eq_zero_iff.mp h
      subst this
      simp [met]
    | succ n ih =>
      intro L h
      rcases List.eq_nil_or_concat L with rfl | ⟨l, a, rfl⟩
      · simp at h
      · simp only [List.concat_eq_append] at h ⊢
        have hl : l.length = n := by simpa using h
        rw [List.map_append, List.map_singleton, met_snoc, met_snoc, ih l hl, List.length_append, List.length_singleton, List.length_map, div_succ _ s hs]
        split <;> omega
  exact key _ L rfl
theorem conj (s : Nat) (hs : 0 < s) : ∀ w, ((Zw w).map (· / s)).sum = (met s (Zw (dual w))).sum
  | [] => by simp [Zw, dual, met]
  | true :: w => by
    rw [dual_cons]
    show ((Zw w).map (· / s)).sum = (met s (Zw (dual w ++ [false]))).sum
    rw [Zw_false, met_snoc, conj s hs w]
    split <;> rfl
  | false :: w => by
    rw [dual_cons]
    show ((ones w :: Zw w).map (· / s)).sum = (met s (Zw (dual w ++ [true]))).sum
    rw [Zw_true, met_up s hs, Zw_len, zeros_dual, List.map_cons, List.sum_cons, conj s hs w]
    omega
theorem div_one_sum (l : List Nat) : (l.map (· / 1)).sum = l.sum := by simp
theorem met_one (L : List Nat) : met 1 L = L := by
  unfold met
  have : ((List.range L.length).filter fun k => (k + 1) % 1 == 0) = List.range L.length := List.filter_eq_self.mpr fun k _ => by simp [Nat.mod_one]
  rw [this]
  apply List.ext_getElem
  · simp
  · intro i h1 h2
    simp [List.getD_eq_getElem?_getD, h2]
theorem Zw_sum (w : List Bool) : (Zw w).sum = (Zw (dual w)).sum := by
  have := conj 1 (by omega) w
  rwa [div_one_sum, met_one] at this
theorem ilv_perm {r s : List Nat} (h : r.Perm s) (t : Nat) : ilv r t = ilv s t := by
  unfold ilv
  rw [(h.map (· / t)).sum_nat, h.length_eq]
theorem ilv_one (r : List Nat) : ilv r 1 = r.sum + r.length := by unfold ilv; rw [div_one_sum, Nat.one_mul]
theorem ilv_far (r : List Nat) (t : Nat) (h : top r ≤ t) : ilv r t = t * r.length := by
  unfold ilv
  have : r.map (· / t) = r.map fun _ => 0 := List.map_congr_left fun d hd => Nat.div_eq_of_lt (by have := lt_top hd; omega)
  rw [this, zero_sum, Nat.zero_add]
noncomputable def lessB (r r' : List Nat) : Bool := decide (r.sum + r.length < r'.sum + r'.length) &&
  (if top r ≤ 1 ∧ top r' ≤ 1 then decide (r.length ≤ r'.length) else !(((List.range (max (top r - 1) (top r' - 1) + 1 - 1)).map (2 + ·)).any fun t => decide (ilv r' t ≤ ilv r t)))
theorem less_all (r c : List Nat) (N : Nat) (hs : r.sum = c.sum) (ht : 2 ≤ top r) (h1 : top r ≤ N) (h2 : top c ≤ N) :
    lessB r c = (List.range N).all fun i => decide (ilv r (i + 1) < ilv c (i + 1)) := by
  unfold lessB
  rw [if_neg (by omega)]
  rw [Bool.eq_iff_iff, Bool.and_eq_true, decide_eq_true_eq, Bool.not_eq_true', List.any_eq_false, List.all_eq_true]
  constructor
  · rintro ⟨a, b⟩ i hi
    rw [decide_eq_true_eq]
    have hi' := List.mem_range.mp hi
    by_cases i0 : i = 0
    · subst i0; rw [Nat.zero_add, ilv_one, ilv_one]; exact a
    · by_cases i1 : i < max (top r - 1) (top c - 1) + 1
      · have := b (i + 1) (List.mem_map.mpr ⟨i - 1, List.mem_range.mpr (by omega), by omega⟩)
        simpa using this
      · rw [ilv_far r _ (by omega), ilv_far c _ (by omega)]
        exact Nat.mul_lt_mul_of_pos_left (by omega) (by omega)
  · intro h
    refine ⟨?_, ?_⟩
    · have := h 0 (List.mem_range.mpr (by omega))
      rw [decide_eq_true_eq, Nat.zero_add, ilv_one, ilv_one] at this
      exact this
    · intro t hm
      obtain ⟨i, hi, rfl⟩ := List.mem_map.mp hm
      have hi' := List.mem_range.mp hi
      have := h (i + 1) (List.mem_range.mpr (by omega))
      rw [decide_eq_true_eq] at this
      have e : i + 1 + 1 = 2 + i := by omega
      rw [e] at this
      simpa using this
theorem eq_of_perm_sorted {a b : List Nat} (h : a.Perm b) (ha : a.Pairwise (· ≥ ·)) (hb : b.Pairwise (· ≥ ·)) : a = b :=
  h.eq_of_pairwise (fun x y _ _ h1 h2 => Nat.le_antisymm h2 h1) ha hb
end Mine
end
section
open PySem PySem.W PySem.Calls PyProof.Rows
set_option Elab.async false
set_option maxRecDepth 100000
namespace Mine
noncomputable abbrev Act := Bool × Bool × List Nat
noncomputable def bi (b : Bool) : Int := if b then 1 else 0
noncomputable def encA (x : Act) : PV := .tup [.int (bi x.1), .int (bi x.2.1), .str x.2.2]
noncomputable def valid (x : Act) : Prop := x.1 = false → isE x.2.2
noncomputable def rstep (rows : List (Nat × List Nat)) (x : Act) : List (Nat × List Nat) := if x.1 then rows.map (fun y => (up y.1, [13, 10])) else if x.2.1 then (1, x.2.2) :: rows else rows ++ [(1, x.2.2)]
noncomputable def rowsOf (acts : List Act) : List (Nat × List Nat) := acts.foldl rstep []
noncomputable def Bd (n : Nat) (rows : List (Nat × List Nat)) : Prop := rows.length ≤ n ∧ ∀ y ∈ rows, 1 ≤ y.1 ∧ y.1 ≤ n ∧ isE y.2
theorem Bd.step {n : Nat} {rows : List (Nat × List Nat)} {x : Act} (h : Bd n rows) (hv : valid x) : Bd (n + 1) (rstep rows x) := by
  obtain ⟨k, a, e⟩ := x
  cases k with
  | true =>
    refine ⟨?_, fun y hy => ?_⟩
    · show (rows.map _).length ≤ _
      rw [List.length_map]; have := h.1; omega
    · obtain ⟨z, hz, rfl⟩ := List.mem_map.mp hy
      obtain ⟨h1, h2, h3⟩ := h.2 z hz
      have : up z.1 = z.1 + 1 := if_neg (by omega)
      refine ⟨?_, ?_, .inr (.inr rfl)⟩
      · show 1 ≤ up z.1; omega
      · show up z.1 ≤ n + 1; omega
  | false =>
    have he : isE e := hv rfl
    cases a with
    | true =>
      refine ⟨?_, fun y hy => ?_⟩
      · show ((1, e) :: rows).length ≤ _
        have := h.1; simp; omega
      · have hy : y ∈ (1, e) :: rows := hy
        rcases List.mem_cons.mp hy with rfl | hy
        · exact ⟨Nat.le_refl _, by show 1 ≤ n + 1; omega, he⟩
        · obtain ⟨h1, h2, h3⟩ := h.2 y hy
          exact ⟨h1, by omega, h3⟩
    | false =>
      refine ⟨?_, fun y hy => ?_⟩
      · show (rows ++ [(1, e)]).length ≤ _
        have := h.1; simp; omega
      · have hy : y ∈ rows ++ [(1, e)] := hy
        rcases List.mem_append.mp hy with hy | hy
        · obtain ⟨h1, h2, h3⟩ := h.2 y hy
          exact ⟨h1, by omega, h3⟩
        · have : y = (1, e) := by simpa using hy
          subst this
          exact ⟨Nat.le_refl _, by show 1 ≤ n + 1; omega, he⟩
theorem Bd.fold : ∀ (acts : List Act) (n : Nat) (rows : List (Nat × List Nat)), Bd n rows → (∀ x ∈ acts, valid x) → Bd (n + acts.length) (acts.foldl rstep rows)
  | [], n, rows, h, _ => h
  | x :: acts, n, rows, h, hv => by
    have := Bd.fold acts (n + 1) (rstep rows x) (h.step (hv x (by simp))) fun y hy => hv y (by simp [hy])
    rw [List.foldl_cons, List.length_cons]
    have e : n + 1 + acts.length = n + (acts.length + 1) := by omega
    rwa [e] at this
theorem rowsOf_Bd (acts : List Act) (hv : ∀ x ∈ acts, valid x) : Bd acts.length (rowsOf acts) := by
  have := Bd.fold acts 0 [] ⟨Nat.le_refl _, by simp⟩ hv
  rwa [Nat.zero_add] at this
theorem Bd.len {n : Nat} {rows : List (Nat × List Nat)} (h : Bd n rows) (hn : n ≤ 13) : (mt rows).length ≤ 195 := by
  have h1 := mt_len rows fun y hy => (h.2 y hy).2.2
  have h2 := sum_le (n := 13) (rows.map (·.1)) (fun d hd => by obtain ⟨y, hy, rfl⟩ := List.mem_map.mp hd; have := (h.2 y hy).2.1; omega)
  rw [List.length_map] at h2
  have h3 := h.1
  omega
theorem Bd.ok {n : Nat} {rows : List (Nat × List Nat)} (h : Bd n rows) : ∀ y ∈ rows, okR y := fun y hy => ⟨(h.2 y hy).2.2, fun e => by have := (h.2 y hy).1; omega⟩
theorem rowsOf_snoc (pre : List Act) (x : Act) : rowsOf (pre ++ [x]) = rstep (rowsOf pre) x := by unfold rowsOf; rw [List.foldl_append]; rfl
theorem mt_send (rows : List (Nat × List Nat)) (h : ∀ y ∈ rows, okR y) : dotQ true (eolFix (mt rows)) = mt (rows.map fun y => (up y.1, [13, 10])) := by
  rw [eolFix_mt rows h, dotQ_crl]
  have e : (rows.map fun y => (up y.1, [13, 10])) = ((rows.map (·.1)).map up).map fun d => (d, [13, 10]) := by rw [List.map_map, List.map_map]; rfl
  rw [e, mt_crl]

noncomputable def onesA (l : List Act) : Nat := ones (l.map (·.1))
noncomputable def go : List Nat → List Act → List Nat
  | runs, [] => runs
  | runs, x :: r => if x.1 then go runs r else if x.2.1 then go (onesA r :: runs) r else go (runs ++ [onesA r]) r
theorem onesA_cons (x : Act) (r : List Act) : onesA (x :: r) = (if x.1 then 1 else 0) + onesA r := rfl
theorem go_perm : ∀ (acts : List Act) (runs : List Nat), (go runs acts).Perm (runs ++ Zw (acts.map (·.1)))
  | [], runs => by simp [go, Zw]
  | (true, a, e) :: r, runs => by
    have := go_perm r runs
    simpa [go, Zw] using this
  | (false, true, e) :: r, runs => by
    have := go_perm r (onesA r :: runs)
    show (go (onesA r :: runs) r).Perm (runs ++ onesA r :: Zw (r.map (·.1)))
    exact this.trans List.perm_middle.symm
  | (false, false, e) :: r, runs => by
    have := go_perm r (runs ++ [onesA r])
    show (go (runs ++ [onesA r]) r).Perm (runs ++ onesA r :: Zw (r.map (·.1)))
    simpa using this
theorem go_behind : ∀ (acts : List Act) (runs : List Nat), (∀ x ∈ acts, x.2.1 = false) → go runs acts = runs ++ Zw (acts.map (·.1))
  | [], runs, _ => by simp [go, Zw]
  | (true, a, e) :: r, runs, h => by
    have := go_behind r runs fun x hx => h x (by simp [hx])
    simpa [go, Zw] using this
  | (false, a, e) :: r, runs, h => by
    have ha : a = false := h (false, a, e) (by simp)
    subst ha
    have := go_behind r (runs ++ [onesA r]) fun x hx => h x (by simp [hx])
    show go (runs ++ [onesA r]) r = runs ++ onesA r :: Zw (r.map (·.1))
    rw [this]; simp
theorem up_ge {d : Nat} (h : 1 ≤ d) : up d = d + 1 := if_neg (by omega)
theorem rows_go : ∀ (acts : List Act) (rows : List (Nat × List Nat)) (runs : List Nat), (∀ y ∈ rows, 1 ≤ y.1) → rows.map (fun y => y.1 + onesA acts) = runs.map (· + 1) → (acts.foldl rstep rows).map (·.1) = (go runs acts).map (· + 1)
  | [], rows, runs, _, h => h
  | (true, a, e) :: r, rows, runs, hp, h => by
    have := rows_go r (rows.map fun y => (up y.1, [13, 10])) runs (fun y hy => by
      obtain ⟨z, hz, rfl⟩ := List.mem_map.mp hy
      have := hp z hz
      show 1 ≤ up z.1
      rw [up_ge this]; omega) (by
      rw [← h, List.map_map]
      refine List.map_congr_left fun y hy => ?_
      have := hp y hy
      show up y.1 + onesA r = y.1 + (1 + onesA r)
      rw [up_ge this]; omega)
    exact this
  | (false, true, e) :: r, rows, runs, hp, h => by
    have := rows_go r ((1, e) :: rows) (onesA r :: runs) (fun y hy => by
      rcases List.mem_cons.mp hy with rfl | hy
      · exact Nat.le_refl _
      · exact hp y hy) (by
      have h' : rows.map (fun y => y.1 + onesA r) = runs.map (· + 1) := by rw [← h]; exact List.map_congr_left fun y _ => by show _ = y.1 + (0 + onesA r); omega
      rw [List.map_cons, List.map_cons, h']
      congr 1
      omega)
    exact this
  | (false, false, e) :: r, rows, runs, hp, h => by
    have := rows_go r (rows ++ [(1, e)]) (runs ++ [onesA r]) (fun y hy => by
      rcases List.mem_append.mp hy with hy | hy
      · exact hp y hy
      · have : y = (1, e) := by simpa using hy
        subst this
        exact Nat.le_refl _) (by
      have h' : rows.map (fun y => y.1 + onesA r) = runs.map (· + 1) := by rw [← h]; exact List.map_congr_left fun y _ => by show _ = y.1 + (0 + onesA r); omega
      rw [List.map_append, List.map_append, h']
      congr 1
      simp; omega)
    exact this
theorem rowsOf_go (acts : List Act) : (rowsOf acts).map (·.1) = (go [] acts).map (· + 1) := rows_go acts [] [] (by simp) rfl
end Mine
end
section
open PySem PySem.W PySem.Calls PyProof.Rows
set_option Elab.async false
set_option maxRecDepth 100000
namespace Mine
noncomputable def turn1 (x : Act) : Act := (!x.1, false, [13, 10])
theorem kinds_turn (acts : List Act) : (acts.reverse.map turn1).map (·.1) = dual (acts.map (·.1)) := by
  unfold dual
  rw [List.map_map, List.map_reverse, List.map_map]; rfl
section
variable (acts : List Act) (w : List Bool) (hw : acts.map (·.1) = w)
include hw
theorem cols_eq : go [] (acts.reverse.map turn1) = Zw (dual w) := by
  rw [go_behind _ _ (fun x hx => by obtain ⟨y, _, rfl⟩ := List.mem_map.mp hx; rfl), kinds_turn, hw, List.nil_append]
theorem rows_perm : (go [] acts).Perm (Zw w) := by
  have := go_perm acts []
  rwa [hw, List.nil_append] at this
theorem rows_sum : (go [] acts).sum = (Zw (dual w)).sum := by
  rw [(rows_perm acts w hw).sum_nat, Zw_sum]
theorem rows_il (s : Nat) (hs : 0 < s) : ilv (go [] acts) s = s * ((go [] acts).length + (met s (Zw (dual w))).sum) := by
  have hp := rows_perm acts w hw
  rw [ilv_perm hp, hp.length_eq]
  unfold ilv
  rw [conj s hs w, Nat.add_comm]
omit hw in
theorem cols_il (s : Nat) (hs : 0 < s) : ilv (Zw (dual w)) s = s * ((Zw (dual w)).length + (met s (Zw w)).sum) := by
  unfold ilv
  rw [conj s hs (dual w), dual_dual, Nat.add_comm]
theorem same_iff : hist (go [] acts) = hist (Zw (dual w)) ↔ w = dual w := by
  rw [hist_inj]
  constructor
  · intro h
    have h2 := (rows_perm acts w hw).symm.trans h
    exact Zw_inj w (dual w) (dual_len w).symm (eq_of_perm_sorted h2 (Zw_sorted w) (Zw_sorted _))
  · intro h
    rw [← h]
    exact rows_perm acts w hw
theorem less_is (w' : List Bool) (e : w = false :: false :: true :: w') : lessB (go [] acts) (Zw (dual w)) = (List.range acts.length).all fun i => decide (ilv (go [] acts) (i + 1) < ilv (Zw (dual w)) (i + 1)) := by
  have hn : acts.length = zeros w + ones w := by rw [← len_oz, ← hw, List.length_map]
  have hz : 1 ≤ zeros w := by rw [e]; simp [zeros]
  have ho : 1 ≤ ones w := by rw [e]; simp [ones]
  refine less_all _ _ _ (rows_sum acts w hw) ?_ ?_ ?_
  · rw [top_perm (rows_perm acts w hw)]
    have : ones w ∈ Zw w := by rw [e]; simp [Zw, ones]
    have := lt_top this
    omega
  · rw [top_perm (rows_perm acts w hw), hn]
    exact top_le.mpr fun d hd => by have := Zw_le w d hd; omega
  · rw [hn]
    refine top_le.mpr fun d hd => ?_
    have := Zw_le _ d hd
    rw [ones_dual] at this
    omega
end
end Mine
end
section
open PySem PySem.W PySem.Calls PyProof.Rows
set_option Elab.async false
set_option maxRecDepth 100000
namespace Mine
namespace L01
noncomputable section
theorem v_fix (t : List Nat) (h : t.length ≤ 100000) : callV 1 1 x__fix_eols.1 [.str t] = some (.str (eolFix t)) := by
  have e := psub2 t (lim_ge (by omega)) (lim_ge (by have := eolFix_len t; omega))
  unfold x__fix_eols s__fix_eols_0 callV startSt
  simp [seqf, getv, consf, e, outRet]
theorem v_quote (t : List Nat) (h : t.length ≤ 100000) : callV 1 1 x_quotedata.1 [.str t] = some (.str (dotQ true (eolFix t))) := by
  have h1 := eolFix_len t
  have e := psub2 t (lim_ge (by omega)) (lim_ge (by omega))
  have e2 := psub1 (eolFix t) (lim_ge (by omega)) (lim_ge (by have := dotQ_len true (eolFix t); omega))
  have e3 : (Str.ofString "..").cps.toList = [46, 46] := by decide +kernel
  unfold x_quotedata s_quotedata_0 callV startSt
  simp [seqf, getv, consf, e, e2, e3, outRet]
theorem turn (t y z : List Nat) (ht : t.length ≤ 100000) (hy : y ≠ []) (hz : z.length = 1) (hk : Builtin.Str.strKind (txt y) = 1) :
    splitV [.str t, .str y] = some (.list ((Txt.split (txt t) (txt y)).map fun p => .str p.cps.toList)) ∧
    joinV [.str z, .list ((Txt.split (txt t) (txt y)).map fun p => .str p.cps.toList)] = some (.str (replS y z 0 t)) := by
  constructor
  · unfold splitV
    dsimp only
    rw [if_pos ⟨hy, lim_ge (by omega)⟩]
  · unfold joinV
    dsimp only
    have e : (Txt.split (txt t) (txt y)).map (fun p => PV.str p.cps.toList) = ((Txt.split (txt t) (txt y)).map fun p => p.cps.toList).map PV.str := by rw [List.map_map]; rfl
    rw [e, strsOf_map, Option.bind_some, split_repl y z t hy hk, if_pos]
    have w := PyProof.Rows.split_weight (txt t) (txt y) (by rw [txt_length]; exact List.length_pos_iff.mpr hy)
    have e2 : ((Txt.split (txt t) (txt y)).map fun p => p.cps.toList).map List.length = (Txt.split (txt t) (txt y)).map fun p => p.length := by
      rw [List.map_map]; exact List.map_congr_left fun p _ => by simp [Str.length]
    rw [e2, List.length_map, hz]
    rw [txt_length] at w
    exact lim_ge (by omega)
noncomputable def repV : List PV → Option PV := fun ds => match ds with | d :: ds => if ds.length = 4 then callV 2 2 x_replace.1 [d, .tup ds] else none | [] => none
theorem v_replace (t a b c d : List Nat) (ht : t.length ≤ 100000) (ha : a ≠ []) (hb : b.length = 1) (hk : Builtin.Str.strKind (txt a) = 1) (hc : c ≠ []) (hd : d.length = 1) (hk2 : Builtin.Str.strKind (txt c) = 1) :
    repV [.str t, .str a, .str b, .str c, .str d] = some (.str (replS c d 0 (replS a b 0 t))) := by
  obtain ⟨e1, e2⟩ := turn t a b ht ha hb hk
  have hl := replS_len a b (by omega) 0 t
  obtain ⟨e3, e4⟩ := turn (replS a b 0 t) c d (by omega) hc hd hk2
  have i0 : ∀ x r, idxV (x :: r) 0 = some x := fun x r => by unfold idxV; rw [if_pos ⟨by omega, big_gt (by omega)⟩]; rfl
  have i1 : ∀ x y r, idxV (x :: y :: r) 1 = some y := fun x y r => by unfold idxV; rw [if_pos ⟨by omega, big_gt (by omega)⟩]; rfl
  have l4 : 4 ≤ lim := lim_ge (by omega)
  have l2 : 2 ≤ lim := lim_ge (by omega)
  have l0 : 0 ≤ lim := lim_ge (by omega)
  unfold repV x_replace s_replace_0 s_replace_1 callV startSt
  simp [whileV, seqf, getv, asTup, methf, idxf, consf, i0, i1, e1, e2, e3, e4, l4, l2, l0, outRet]

noncomputable def wi (raw r : List Nat) : PV := .inst 131 ["raw", "n", "nt", "norm", "is_simple"] [.str raw, .int (r.sum + r.length : Nat), .int r.length, .tup [.tup ((hist r).map .int), .int 0], .bool (decide ((hist r).length ≤ 1))]
theorem at_nt (raw r : List Nat) : instAttr 131 "nt" (wi raw r) = some (.int r.length) := by rfl
theorem at_norm (raw r : List Nat) : instAttr 131 "norm" (wi raw r) = some (.tup [.tup ((hist r).map .int), .int 0]) := by rfl
theorem is_longest (raw r : List Nat) : asInst 131 "longest_run_of_spaces" (wi raw r) = some (wi raw r) := by rfl
theorem is_il (raw r : List Nat) : asInst 131 "indent_level" (wi raw r) = some (wi raw r) := by rfl
theorem is_equal (raw r : List Nat) : asInst 131 "equal" (wi raw r) = some (wi raw r) := by rfl
theorem is_less (raw r : List Nat) : asInst 131 "less" (wi raw r) = some (wi raw r) := by rfl
theorem bump_hist (r : List Nat) (d : Nat) : bump (hist r) d = hist (r ++ [d]) := by
  refine ext_getD ?_ fun k => ?_
  · rw [bump_len, hist_len, hist_len, top_snoc]
  · rw [hist_getD, List.count_append, List.count_singleton]
    unfold bump
    rw [hist_len]
    have g : ∀ i, (if d ≥ top r then hist r ++ List.replicate (d - top r + 1) 0 else hist r).getD i 0 = (r.count i : Int) := fun i => by
      split
      · rw [List.getD_eq_getElem?_getD, List.getElem?_append]
        split
        · rw [← List.getD_eq_getElem?_getD, hist_getD]
        · rename_i hi
          rw [hist_len] at hi
          rw [count_top (by omega), List.getElem?_replicate]
          split <;> rfl
      · exact hist_getD r i
    have hl : d < (if d ≥ top r then hist r ++ List.replicate (d - top r + 1) 0 else hist r).length := by
      split
      · rw [List.length_append, hist_len, List.length_replicate]; omega
      · rw [hist_len]; omega
    generalize (if d ≥ top r then hist r ++ List.replicate (d - top r + 1) 0 else hist r) = c at g hl
    dsimp only
    rw [g d, List.getD_eq_getElem?_getD, List.getElem?_set]
    by_cases h : d = k
    · subst h; simp [hl]
    · rw [if_neg h, ← List.getD_eq_getElem?_getD, g k]
      simp [h]
noncomputable def Stops (t : List Nat) : Prop := t = [] ∨ ∃ c r, t = c :: r ∧ c ≠ 32 ∧ c ≠ 9
theorem run_blanks (cnt : List Int) (rest : List Nat) : ∀ (d b n nt : Nat), wsRun (List.replicate d 32 ++ 9 :: rest) (cnt, b, n, nt) = wsRun rest (bump cnt (b + d), 0, n + d + 1, nt + 1)
  | 0, b, n, nt => by rw [List.replicate_zero, List.nil_append, wsRun, if_neg (by decide), if_pos rfl]; rfl
  | d + 1, b, n, nt => by
    rw [List.replicate_succ, List.cons_append, wsRun, if_pos rfl, run_blanks cnt rest d]
    have e1 : b + 1 + d = b + (d + 1) := by omega
    have e2 : n + 1 + d + 1 = n + (d + 1) + 1 := by omega
    rw [e1, e2]
theorem run_lead (tl : List Nat) (ht : Stops tl) : ∀ (r s : List Nat) (n nt : Nat), wsRun (lead r ++ tl) (hist s, 0, n, nt) = (hist (s ++ r), 0, n + (r.sum + r.length), nt + r.length)
  | [], s, n, nt => by
    rw [lead, List.nil_append, List.append_nil]
    rcases ht with rfl | ⟨c, q, rfl, h1, h2⟩
    · rfl
    · rw [wsRun, if_neg h1, if_neg h2]; rfl
  | d :: r, s, n, nt => by
    rw [lead, List.append_assoc, List.cons_append, run_blanks, Nat.zero_add, bump_hist, run_lead tl ht r]
    simp
    omega
theorem v_ws (r tl : List Nat) (ht : Stops tl) (hl : (lead r ++ tl).length ≤ 100000) : V_Whitespace [.str (lead r ++ tl)] = some (wi (lead r ++ tl) r) := by
  unfold V_Whitespace
  dsimp only
  rw [if_pos (lim_gt (by omega))]
  have e : wsOf (lead r ++ tl) = (hist r, 0, r.sum + r.length, r.length) := by
    have := run_lead tl ht r [] 0 0
    simpa [wsOf, hist, top] using this
  unfold wsVals wi
  rw [e]
  rfl
theorem v_longest (raw r : List Nat) (h : top r ≤ 1000) : callV 1 3 x_longest_run_of_spaces.1 [wi raw r] = some (.int (top r - 1 : Nat)) := by
  have e : max ((top r : Int) - 1) 0 = ((top r - 1 : Nat) : Int) := by omega
  have hl : top r ≤ lim := lim_ge (by omega)
  unfold x_longest_run_of_spaces s_longest_run_of_spaces_0 s_longest_run_of_spaces_1 callV startSt
  simp [seqf, getv, at_norm, bindSeq, bindAll, callf, consf, opf, lenV, hist_len, hl, subV, maxV, outRet, e]
theorem small_nat {q : Nat} (h : q < 1000000) : small (q : Int) = true := small_of (by omega) (by omega)
theorem il_step (raw r : List Nat) (ts acc : Nat) (x : Slot) (i : Nat) (h0 : 0 < ts) (ht : ts < 1000) (hi : i < top r) (hr : top r ≤ 1000) :
    s_indent_level_2.1 [.val (wi raw r), .val (.int ts), .val (.tup ((hist r).map .int)), .val (.int 0), .val (.int acc), .val (.int i)] =
      some (.next [.val (wi raw r), .val (.int ts), .val (.tup ((hist r).map .int)), .val (.int 0), .val (.int (acc + i / ts * r.count i : Nat)), .val (.int i)]) := by
  have h1 : (0 : Int) < ts ∧ (ts : Int) < big := ⟨by omega, big_gt (by omega)⟩
  have h2 : (0 : Int) ≤ i ∧ (i : Int) < big := ⟨by omega, big_gt (by omega)⟩
  have h3 : ((hist r).map PV.int)[i]? = some (.int (r.count i : Nat)) := by rw [List.getElem?_map, hist_get hi]; rfl
  have h4 : Int.fdiv (i : Int) (ts : Int) = ((i / ts : Nat) : Int) := by rw [Int.fdiv_eq_ediv_of_nonneg _ (by omega)]; exact (Int.natCast_ediv i ts).symm
  have h5 : small ((i / ts : Nat) : Int) = true := small_nat (by have := Nat.div_le_self i ts; omega)
  generalize hσ : ([.val (wi raw r), .val (.int ts), .val (.tup ((hist r).map .int)), .val (.int 0), .val (.int acc), .val (.int i)] : St) = σ
  have a1 : opf fdivV (getv 5) (getv 1) σ = some (.int (i / ts : Nat)) := by
    subst hσ
    show fdivV (.int i) (.int ts) = _
    unfold fdivV
    dsimp only
    rw [if_pos h1, h4]
  have a2 : idxf (fun σ => (getv 2 σ).bind asTup) (getv 5) σ = some (.int (r.count i : Nat)) := by
    subst hσ
    show idxV ((hist r).map PV.int) i = _
    unfold idxV
    rw [if_pos h2, Int.toNat_natCast, h3]
  have a3 : opf mulV (opf fdivV (getv 5) (getv 1)) (idxf (fun σ => (getv 2 σ).bind asTup) (getv 5)) σ = some (.int (i / ts * r.count i : Nat)) := by
    unfold opf at a1 ⊢
    rw [a1, a2]
    dsimp only
    unfold mulV
    dsimp only
    rw [h5, Bool.true_or, if_pos rfl, Int.natCast_mul]
  have a4 : opf addV (getv 4) (opf mulV (opf fdivV (getv 5) (getv 1)) (idxf (fun σ => (getv 2 σ).bind asTup) (getv 5))) σ = some (.int (acc + i / ts * r.count i : Nat)) := by
    have a0 : getv 4 σ = some (.int acc) := by subst hσ; rfl
    unfold opf at a3 ⊢
    rw [a3, a0]
    dsimp only
    unfold addV
    dsimp only
    rw [Int.natCast_add]
  unfold s_indent_level_2
  dsimp only
  rw [a4]
  subst hσ
  rfl
theorem il_loop (raw r : List Nat) (ts : Nat) (x : Slot) (h0 : 0 < ts) (ht : ts < 1000) (hr : top r ≤ 1000) :
    ∃ y, s_indent_level_3.1 [.val (wi raw r), .val (.int ts), .val (.tup ((hist r).map .int)), .val (.int 0), .val (.int 0), x] =
      some (.next [.val (wi raw r), .val (.int ts), .val (.tup ((hist r).map .int)), .val (.int 0), .val (.int ((r.map (· / ts)).sum : Nat)), y]) := by
  unfold s_indent_level_3
  have e1 : ((consf (getv 1) (consf (callf lenV (consf (getv 2) fun x => some [])) fun x => some []) [.val (wi raw r), .val (.int ts), .val (.tup ((hist r).map .int)), .val (.int 0), .val (.int 0), x]).bind rangeV) = some ((List.range (top r - ts)).map fun i => .int (ts + i : Nat)) := by
    have hl : top r ≤ lim := lim_ge (by omega)
    have s1 : small (ts : Int) = true := small_of (by omega) (by omega)
    have s2 : small (top r : Int) = true := small_of (by omega) (by omega)
    have e : ((top r : Int) - (ts : Int)).toNat = top r - ts := by omega
    simp [consf, getv, callf, lenV, hist_len, hl, rangeV, s1, s2, rangeL, e]
  dsimp only
  rw [e1, Option.bind_some]
  obtain ⟨σ', e2, y, e3⟩ := forV_rel (bind := fun σ d => some (List.set σ 5 (Slot.val d))) (fb := seqf s_indent_level_2.val fun σ => some (Out.next σ)) (fun i => PV.int (ts + i : Nat)) (fun (acc : Nat) i => acc + (ts + i) / ts * r.count (ts + i))
    (fun acc σ => ∃ y, σ = [.val (wi raw r), .val (.int ts), .val (.tup ((hist r).map .int)), .val (.int 0), .val (.int acc), y]) (List.range (top r - ts)) 0 [.val (wi raw r), .val (.int ts), .val (.tup ((hist r).map .int)), .val (.int 0), .val (.int 0), x] ⟨x, rfl⟩
    (by
      rintro acc σ i hi ⟨y, rfl⟩
      have hi' := List.mem_range.mp hi
      exact ⟨_, _, rfl, seqf_next (il_step raw r ts acc y (ts + i) h0 ht (by omega) hr), _, rfl⟩)
  rw [e2, e3]
  refine ⟨y, ?_⟩
  have e4 : ∀ (l : List Nat) (a : Nat), l.foldl (fun (acc : Nat) i => acc + (ts + i) / ts * r.count (ts + i)) a = a + (l.map fun i => (ts + i) / ts * r.count (ts + i)).sum := by
    intro l
    induction l with
    | nil => intro a; rfl
    | cons b l ih => intro a; rw [List.foldl_cons, ih, List.map_cons, List.sum_cons]; omega
  rw [e4, il_sum, Nat.zero_add]
theorem v_il (raw r : List Nat) (ts : Nat) (h0 : 0 < ts) (ht : ts < 1000) (hr : top r ≤ 1000) : callV 2 6 x_indent_level.1 [wi raw r, .int ts] = some (.int (ilv r ts : Nat)) := by
  have q0 : s_indent_level_0.1 (.val (wi raw r) :: .val (.int ts) :: List.replicate 4 Slot.empty) = some (.next [.val (wi raw r), .val (.int ts), .val (.tup ((hist r).map .int)), .val (.int 0), .empty, .empty]) := by
    unfold s_indent_level_0
    simp only [getv, List.getElem?_cons_zero, Option.bind_some, at_norm]
    rfl
  have q1 : s_indent_level_1.1 [.val (wi raw r), .val (.int ts), .val (.tup ((hist r).map .int)), .val (.int 0), .empty, .empty] = some (.next [.val (wi raw r), .val (.int ts), .val (.tup ((hist r).map .int)), .val (.int 0), .val (.int 0), .empty]) := by rfl
  obtain ⟨y, q3⟩ := il_loop raw r ts .empty h0 ht hr
  have s1 : small (ts : Int) = true := small_of (by omega) (by omega)
  have q4 : s_indent_level_4.1 [.val (wi raw r), .val (.int ts), .val (.tup ((hist r).map .int)), .val (.int 0), .val (.int ((r.map (· / ts)).sum : Nat)), y] = some (.ret (.int (ilv r ts : Nat))) := by
    unfold s_indent_level_4 ilv
    simp [opf, getv, addV, mulV, at_nt, s1]
  have e : x_indent_level.1 (.val (wi raw r) :: .val (.int ts) :: List.replicate 4 Slot.empty) = some (.ret (.int (ilv r ts : Nat))) := by
    unfold x_indent_level
    dsimp only
    rw [seqf_next q0, seqf_next q1, seqf_next q3, seqf_ret q4]
  unfold callV
  show (x_indent_level.1 (.val (wi raw r) :: .val (.int ts) :: List.replicate 4 Slot.empty)).bind outRet = _
  rw [e]; rfl
theorem v_equal (raw r raw' r' : List Nat) : callV 2 2 x_equal.1 [wi raw r, wi raw' r'] = some (.bool (decide (hist r = hist r'))) := by
  unfold x_equal s_equal_0 callV startSt
  simp [seqf, getv, opf, at_norm, eqV_norm, outRet]
theorem v_less (raw r raw' r' : List Nat) (h : top r ≤ 500) (h' : top r' ≤ 500) : callV 2 4 x_less.1 [wi raw r, wi raw' r'] = some (.bool (lessB r r')) := by
  have g : ∀ (f : St → Option Out), callV 2 4 f [wi raw r, wi raw' r'] = (f [.val (wi raw r), .val (wi raw' r'), .empty, .empty]).bind outRet := fun f => rfl
  rw [g]
  have k0 : s_less_0.1 [.val (wi raw r), .val (wi raw' r'), .empty, .empty] = if r.sum + r.length < r'.sum + r'.length then some (.next [.val (wi raw r), .val (wi raw' r'), .empty, .empty]) else some (.ret (.bool false)) := by
    unfold s_less_0
    dsimp only
    have e : opf geV (fun σ => (getv 0 σ).bind (instAttr 131 (Str.ofString "n"))) (fun σ => (getv 1 σ).bind (instAttr 131 (Str.ofString "n"))) [.val (wi raw r), .val (wi raw' r'), .empty, .empty] = some (decide (((r'.sum + r'.length : Nat) : Int) ≤ ((r.sum + r.length : Nat) : Int))) := rfl
    rw [e]
    by_cases hh : r.sum + r.length < r'.sum + r'.length
    · rw [if_pos hh, decide_eq_false (by omega)]
    · rw [if_neg hh, decide_eq_true (by omega)]; rfl
  have k1 : s_less_1.1 [.val (wi raw r), .val (wi raw' r'), .empty, .empty] = if top r ≤ 1 ∧ top r' ≤ 1 then some (.ret (.bool (decide (r.length ≤ r'.length)))) else some (.next [.val (wi raw r), .val (wi raw' r'), .empty, .empty]) := by
    unfold s_less_1
    dsimp only
    have e : ((getv 0 [.val (wi raw r), .val (wi raw' r'), .empty, .empty]).bind (instAttr 131 (Str.ofString "is_simple"))).bind truthV = some (decide (top r ≤ 1)) := by
      rw [← hist_len]; rfl
    have e' : ((getv 1 [.val (wi raw r), .val (wi raw' r'), .empty, .empty]).bind (instAttr 131 (Str.ofString "is_simple"))).bind truthV = some (decide (top r' ≤ 1)) := by
      rw [← hist_len]; rfl
    rw [e, e']
    have e3 : opf leV (fun σ => (getv 0 σ).bind (instAttr 131 (Str.ofString "nt"))) (fun σ => (getv 1 σ).bind (instAttr 131 (Str.ofString "nt"))) [.val (wi raw r), .val (wi raw' r'), .empty, .empty] = some (decide ((r.length : Int) ≤ (r'.length : Int))) := rfl
    by_cases h1 : top r ≤ 1
    · by_cases h2 : top r' ≤ 1
      · rw [if_pos ⟨h1, h2⟩, decide_eq_true h1, decide_eq_true h2]
        dsimp only
        rw [seqf, e3]
        simp
      · rw [if_neg (fun q => h2 q.2), decide_eq_true h1, decide_eq_false h2]
    · rw [if_neg (fun q => h1 q.1), decide_eq_false h1]
  let n := max (top r - 1) (top r' - 1) + 1
  have k2 : s_less_2.1 [.val (wi raw r), .val (wi raw' r'), .empty, .empty] = some (.next [.val (wi raw r), .val (wi raw' r'), .val (.int n), .empty]) := by
    unfold s_less_2
    have m1 : ∀ σ, σ = [.val (wi raw r), .val (wi raw' r'), Slot.empty, Slot.empty] → methI 131 (Str.ofString "longest_run_of_spaces") (callV 1 3 x_longest_run_of_spaces.val) (getv 0) (fun x => some []) σ = some (.int (top r - 1 : Nat)) := by
      rintro _ rfl
      unfold methI
      simp only [getv, List.getElem?_cons_zero, Option.bind_some]
      rw [is_longest, Option.bind_some, v_longest raw r (by omega)]
    have m2 : ∀ σ, σ = [.val (wi raw r), .val (wi raw' r'), Slot.empty, Slot.empty] → methI 131 (Str.ofString "longest_run_of_spaces") (callV 1 3 x_longest_run_of_spaces.val) (getv 1) (fun x => some []) σ = some (.int (top r' - 1 : Nat)) := by
      rintro _ rfl
      unfold methI
      simp only [getv, List.getElem?_cons_zero, List.getElem?_cons_succ, Option.bind_some]
      rw [is_longest, Option.bind_some, v_longest raw' r' (by omega)]
    have e : (max ((top r - 1 : Nat) : Int) ((top r' - 1 : Nat) : Int)) + 1 = (n : Int) := by
      show _ = ((max (top r - 1) (top r' - 1) + 1 : Nat) : Int)
      omega
    simp only [opf, callf, consf, m1 _ rfl, m2 _ rfl, Option.bind_some, maxV, addV, e]
    rfl
  have k3 : if (((List.range (n - 1)).map (2 + ·)).any fun t => decide (ilv r' t ≤ ilv r t)) then s_less_4.1 [.val (wi raw r), .val (wi raw' r'), .val (.int n), .empty] = some (.ret (.bool false)) else ∃ σ', s_less_4.1 [.val (wi raw r), .val (wi raw' r'), .val (.int n), .empty] = some (.next σ') ∧ True := by
    unfold s_less_4
    have hn : n ≤ 501 := by show max (top r - 1) (top r' - 1) + 1 ≤ 501; omega
    have e1 : ((consf (fun x => some (PV.int 2)) (consf (opf addV (getv 2) fun x => some (PV.int 1)) fun x => some []) [.val (wi raw r), .val (wi raw' r'), .val (.int n), .empty]).bind rangeV) = some (((List.range (n - 1)).map (2 + ·)).map fun t => .int (t : Nat)) := by
      have s1 : small (2 : Int) = true := small_of (by omega) (by omega)
      have s2 : small ((n : Int) + 1) = true := small_of (by omega) (by omega)
      have e : ((n : Int) + 1 - 2).toNat = n - 1 := by omega
      simp [consf, getv, opf, addV, rangeV, s1, s2, rangeL, e]
    dsimp only
    rw [e1]
    simp only [Option.bind_some]
    have := forV_any (bind := fun σ d => some (List.set σ 3 (Slot.val d))) (fb := seqf s_less_3.val fun σ => some (Out.next σ)) (fun t : Nat => PV.int t) (fun t => decide (ilv r' t ≤ ilv r t)) (.bool false) (fun σ => ∃ y, σ = [.val (wi raw r), .val (wi raw' r'), .val (.int n), y]) ((List.range (n - 1)).map (2 + ·)) [.val (wi raw r), .val (wi raw' r'), .val (.int n), .empty] ⟨_, rfl⟩ (by
      rintro σ t ht ⟨y, rfl⟩
      refine ⟨_, rfl, ?_⟩
      obtain ⟨i, hi, rfl⟩ := List.mem_map.mp ht
      have hi' := List.mem_range.mp hi
      have b1 := v_il raw r (2 + i) (by omega) (by omega) (by omega)
      have b2 := v_il raw' r' (2 + i) (by omega) (by omega) (by omega)
      have e2 : opf geV (methI 131 (Str.ofString "indent_level") (callV 2 6 x_indent_level.val) (getv 0) (consf (getv 3) fun x => some [])) (methI 131 (Str.ofString "indent_level") (callV 2 6 x_indent_level.val) (getv 1) (consf (getv 3) fun x => some [])) [.val (wi raw r), .val (wi raw' r'), .val (.int n), .val (.int (2 + i : Nat))] = some (decide (ilv r' (2 + i) ≤ ilv r (2 + i))) := by
        unfold opf methI
        simp only [getv, List.getElem?_cons_zero, List.getElem?_cons_succ, Option.bind_some, is_il, consf, b1, b2, geV]
        simp
      have e3 : List.set [.val (wi raw r), .val (wi raw' r'), .val (.int n), y] 3 (Slot.val (.int (2 + i : Nat))) = [.val (wi raw r), .val (wi raw' r'), .val (.int n), .val (.int (2 + i : Nat))] := rfl
      rw [e3]
      unfold s_less_3
      unfold seqf
      dsimp only
      rw [e2]
      by_cases hc : ilv r' (2 + i) ≤ ilv r (2 + i)
      · rw [decide_eq_true hc]; rfl
      · rw [decide_eq_false hc]; exact ⟨_, rfl, _, rfl⟩)
    split at this
    · rename_i hc
      rw [if_pos hc]; exact this
    · rename_i hc
      rw [if_neg hc]
      obtain ⟨σ', e, _⟩ := this
      exact ⟨σ', e, trivial⟩
  have k5 : ∀ σ, s_less_5.1 σ = some (.ret (.bool true)) := fun σ => rfl
  unfold x_less lessB
  dsimp only
  by_cases h1 : r.sum + r.length < r'.sum + r'.length
  · rw [if_pos h1] at k0
    rw [seqf_next k0, decide_eq_true h1, Bool.true_and]
    by_cases h2 : top r ≤ 1 ∧ top r' ≤ 1
    · rw [if_pos h2] at k1 ⊢
      rw [seqf_ret k1]; rfl
    · rw [if_neg h2] at k1 ⊢
      rw [seqf_next k1, seqf_next k2]
      have en : max (top r - 1) (top r' - 1) + 1 - 1 = n - 1 := rfl
      rw [en]
      cases hc : ((List.range (n - 1)).map (2 + ·)).any fun t => decide (ilv r' t ≤ ilv r t) with
      | true =>
        rw [hc, if_pos rfl] at k3
        rw [seqf_ret k3]; rfl
      | false =>
        rw [hc, if_neg Bool.false_ne_true] at k3
        obtain ⟨σ', k3, _⟩ := k3
        rw [seqf_next k3, seqf_ret (k5 σ')]; rfl
  · rw [if_neg h1] at k0
    rw [seqf_ret k0, decide_eq_false h1]; rfl
end
end L01
end Mine
end
section
open PySem PySem.W PySem.Calls PyProof.Rows
set_option Elab.async false
set_option maxRecDepth 100000
namespace Mine
namespace L01
noncomputable section
theorem eq_bi1 (k : Bool) : eqV (.int (bi k)) (.int 1) = some k := by rw [eqV_int]; cases k <;> rfl
theorem eq_bi0 (k : Bool) : eqV (.int (bi k)) (.int 0) = some (!k) := by rw [eqV_int]; cases k <;> rfl
theorem dot_cps : (Str.ofString ".").cps.toList = [46] := by decide +kernel
theorem mail_step (A : PV) (pre : List Act) (x : Act) (hb : Bd pre.length (rowsOf pre)) (hn : pre.length ≤ 13) (hv : valid x) :
    ∃ s2 s3 s4, (seqf s__law_mail_1.val fun σ => some (Out.next σ)) [.val A, .val (.str (mt (rowsOf pre))), .val (.int (bi x.1)), .val (.int (bi x.2.1)), .val (.str x.2.2)] = some (.next [.val A, .val (.str (mt (rowsOf (pre ++ [x])))), s2, s3, s4]) := by
  rw [rowsOf_snoc]
  obtain ⟨k, a, e⟩ := x
  have hl := hb.len hn
  generalize rowsOf pre = rows at hb hl
  refine ⟨.val (.int (bi k)), .val (.int (bi a)), .val (.str e), ?_⟩
  unfold s__law_mail_1
  dsimp only
  have e1 : opf eqV (getv 2) (fun x => some (PV.int 1)) [.val A, .val (.str (mt rows)), .val (.int (bi k)), .val (.int (bi a)), .val (.str e)] = some k := eq_bi1 k
  have e2 : opf eqV (getv 3) (fun x => some (PV.int 1)) [.val A, .val (.str (mt rows)), .val (.int (bi k)), .val (.int (bi a)), .val (.str e)] = some a := eq_bi1 a
  unfold seqf
  dsimp only
  rw [e1]
  cases k with
  | true =>
    dsimp only
    have e3 : callf (callV 1 1 x_quotedata.val) (consf (getv 1) fun x => some []) [.val A, .val (.str (mt rows)), .val (.int (bi true)), .val (.int (bi a)), .val (.str e)] = some (.str (mt (rstep rows (true, a, e)))) := by
      have h := v_quote (mt rows) (by omega)
      rw [mt_send rows hb.ok] at h
      exact h
    rw [e3]; rfl
  | false =>
    have he : isE e := hv rfl
    have hel : e.length ≤ 2 := by rcases he with rfl | rfl | rfl <;> simp
    dsimp only
    rw [e2]
    cases a with
    | true =>
      dsimp only
      have l1 : 1 + e.length ≤ lim := lim_ge (by omega)
      have l2 : (46 :: e).length + (mt rows).length ≤ lim := lim_ge (by simp only [List.length_cons]; omega)
      have e3 : opf addV (opf addV (fun x => some (PV.str (Str.ofString ".").cps.toList)) (getv 4)) (getv 1) [.val A, .val (.str (mt rows)), .val (.int (bi false)), .val (.int (bi true)), .val (.str e)] = some (.str (mt (rstep rows (false, true, e)))) := by
        rw [dot_cps]
        show (match (if 1 + e.length ≤ lim then some (PV.str (46 :: e)) else none) with | some x => addV x (.str (mt rows)) | none => none) = _
        rw [if_pos l1]
        show (if (46 :: e).length + (mt rows).length ≤ lim then some (PV.str ((46 :: e) ++ mt rows)) else none) = _
        rw [if_pos l2]
        rfl
      rw [e3]; rfl
    | false =>
      dsimp only
      have l1 : (mt rows).length + 1 ≤ lim := lim_ge (by omega)
      have l2 : (mt rows ++ [46]).length + e.length ≤ lim := lim_ge (by simp only [List.length_append, List.length_singleton]; omega)
      have e3 : opf addV (opf addV (getv 1) fun x => some (PV.str (Str.ofString ".").cps.toList)) (getv 4) [.val A, .val (.str (mt rows)), .val (.int (bi false)), .val (.int (bi false)), .val (.str e)] = some (.str (mt (rstep rows (false, false, e)))) := by
        rw [dot_cps]
        show (match (if (mt rows).length + 1 ≤ lim then some (PV.str (mt rows ++ [46])) else none) with | some x => addV x (.str e) | none => none) = _
        rw [if_pos l1]
        show (if (mt rows ++ [46]).length + e.length ≤ lim then some (PV.str ((mt rows ++ [46]) ++ e)) else none) = _
        rw [if_pos l2]
        have : rstep rows (false, false, e) = rows ++ [(1, e)] := rfl
        rw [this, mt_append]
        simp [mt]
      rw [e3]; rfl
theorem v_mail (acts : List Act) (hn : acts.length ≤ 13) (hv : ∀ x ∈ acts, valid x) : callV 1 5 x__law_mail.1 [.list (acts.map encA)] = some (.str (crl ((go [] acts).map (· + 1)))) := by
  have hb := rowsOf_Bd acts hv
  have q0 : s__law_mail_0.1 [.val (.list (acts.map encA)), .empty, .empty, .empty, .empty] = some (.next [.val (.list (acts.map encA)), .val (.str []), .empty, .empty, .empty]) := by
    have : (Str.ofString "").cps.toList = [] := by decide +kernel
    unfold s__law_mail_0
    dsimp only
    rw [this]; rfl
  obtain ⟨σ', q2, s2, s3, s4, rfl⟩ := forV_pre (bind := bindSeq 3 [2, 3, 4]) (fb := seqf s__law_mail_1.val fun σ => some (Out.next σ)) encA
    (fun pre σ => ∃ s2 s3 s4, σ = [.val (.list (acts.map encA)), .val (.str (mt (rowsOf pre))), s2, s3, s4]) acts [] [.val (.list (acts.map encA)), .val (.str []), .empty, .empty, .empty] ⟨_, _, _, rfl⟩ (by
      rintro pre x suf σ he ⟨s2, s3, s4, rfl⟩
      rw [List.nil_append] at he
      have hx : ∀ y ∈ pre, valid y := fun y hy => hv y (by rw [he]; simp [hy])
      have hl : pre.length ≤ 13 := by rw [he] at hn; simp at hn; omega
      obtain ⟨t2, t3, t4, e⟩ := mail_step (.list (acts.map encA)) pre x (rowsOf_Bd pre hx) hl (hv x (by rw [he]; simp))
      exact ⟨_, _, rfl, e, _, _, _, rfl⟩)
  have q2' : s__law_mail_2.1 [.val (.list (acts.map encA)), .val (.str []), .empty, .empty, .empty] = some (.next [.val (.list (acts.map encA)), .val (.str (mt (rowsOf acts))), s2, s3, s4]) := q2
  have q3 : s__law_mail_3.1 [.val (.list (acts.map encA)), .val (.str (mt (rowsOf acts))), s2, s3, s4] = some (.ret (.str (crl ((go [] acts).map (· + 1))))) := by
    have h := v_fix (mt (rowsOf acts)) (by have := hb.len hn; omega)
    rw [eolFix_mt _ hb.ok, rowsOf_go] at h
    unfold s__law_mail_3
    show Option.map Out.ret (callV 1 1 x__fix_eols.val [.str (mt (rowsOf acts))]) = _
    rw [h]; rfl
  have e : x__law_mail.1 [.val (.list (acts.map encA)), .empty, .empty, .empty, .empty] = some (.ret (.str (crl ((go [] acts).map (· + 1))))) := by
    unfold x__law_mail
    dsimp only
    rw [seqf_next q0, seqf_next q2', seqf_ret q3]
  unfold callV
  show (x__law_mail.1 [.val (.list (acts.map encA)), .empty, .empty, .empty, .empty]).bind outRet = _
  rw [e]; rfl

noncomputable def encN (l : List Nat) : PV := .list (l.map fun (d : Nat) => .int d)
theorem encN_int (l : List Nat) : encN l = .list ((l.map Int.ofNat).map .int) := by unfold encN; rw [List.map_map]; rfl
theorem sum_int (l : List Nat) : (l.map Int.ofNat).sum = (l.sum : Nat) := by
  induction l with
  | nil => rfl
  | cons a r ih => rw [List.map_cons, List.sum_cons, List.sum_cons, ih]; simp
theorem range_ints (n : Nat) : rangeL 0 n = (List.range n).map fun (i : Nat) => PV.int i := by
  unfold rangeL
  have : ((n : Int) - 0).toNat = n := by omega
  rw [this]
  exact List.map_congr_left fun i _ => by rw [Int.zero_add]
theorem kinds_sum : ∀ l : List Act, (l.map fun x => bi x.1).sum = (onesA l : Nat)
  | [] => rfl
  | x :: r => by
    rw [List.map_cons, List.sum_cons, kinds_sum r, onesA_cons]
    cases x.1 <;> simp [bi]
theorem first_of (ds : List Act) : compV (fun σ d => some (List.set σ 0 (Slot.val d))) (fun x => some true) (idxf (fun σ => (getv 0 σ).bind asTup) fun x => some (PV.int 0)) [Slot.empty] (ds.map encA) = some ((ds.map fun x => bi x.1).map PV.int) := by
  have h := compV_rel (bind := fun σ d => some (List.set σ 0 (Slot.val d))) (ft := fun x => some true) (fe := idxf (fun σ => (getv 0 σ).bind asTup) fun x => some (PV.int 0)) encA (fun _ => true) (fun x => .int (bi x.1)) (fun σ => ∃ s, σ = [s]) ds [Slot.empty] ⟨_, rfl⟩ (by
    rintro σ x _ ⟨s, rfl⟩
    refine ⟨[.val (encA x)], rfl, rfl, fun _ => ?_, _, rfl⟩
    show idxV [.int (bi x.1), .int (bi x.2.1), .str x.2.2] 0 = _
    unfold idxV
    rw [if_pos ⟨by omega, big_gt (by omega)⟩]; rfl)
  rw [h, List.filter_eq_self.mpr (fun _ _ => rfl), List.map_map]; rfl
theorem clip_at (n p : Nat) (h : p ≤ n) : clipAt n (p : Int) = p := by
  unfold clipAt
  omega
theorem enter_none (σ : St) : enterf [none] σ = some [Slot.empty] := rfl
theorem cut_from (xs : List PV) (p : Nat) (h : p ≤ xs.length) : cutV xs (some (p : Int)) none = xs.drop p := by
  unfold cutV
  show (xs.drop (clipAt xs.length p)).take (xs.length - clipAt xs.length p) = _
  rw [clip_at _ _ h, List.take_of_length_le (by simp)]
noncomputable def dueSt (acts : List Act) (runs : List Nat) (s2 s3 s4 s5 s6 : Slot) : St := [.val (.list (acts.map encA)), .val (encN runs), s2, s3, s4, s5, s6]
theorem due_step (acts : List Act) (runs : List Nat) (p : Nat) (x : Act) (rest : List Act) (s3 s4 s5 s6 : Slot) (hn : acts.length ≤ 13) (hp : p < acts.length) (hd : acts.drop p = x :: rest) (hr : runs.length ≤ 13) :
    ∃ t2 t3 t4 t5 t6, (seqf s__law_due_1.val (seqf s__law_due_2.val (seqf s__law_due_3.val fun σ => some (Out.next σ)))) (dueSt acts runs (.val (.int p)) s3 s4 s5 s6) =
      some (.next (dueSt acts (if x.1 then runs else if x.2.1 then onesA rest :: runs else runs ++ [onesA rest]) t2 t3 t4 t5 t6)) := by
  have hx : (acts.map encA)[p]? = some (encA x) := by
    have := congrArg List.head? hd
    rw [List.head?_drop] at this
    rw [List.getElem?_map, this]; rfl
  have q1 : s__law_due_1.1 (dueSt acts runs (.val (.int p)) s3 s4 s5 s6) = some (.next (dueSt acts runs (.val (.int p)) (.val (.int (bi x.1))) (.val (.int (bi x.2.1))) (.val (.str x.2.2)) s6)) := by
    have e : idxf (fun σ => (getv 0 σ).bind asList) (getv 2) (dueSt acts runs (.val (.int p)) s3 s4 s5 s6) = some (encA x) := by
      show idxV (acts.map encA) p = _
      unfold idxV
      rw [if_pos ⟨by omega, big_gt (by omega)⟩, Int.toNat_natCast, hx]
    unfold s__law_due_1
    dsimp only
    rw [e]; rfl
  have q2 : s__law_due_2.1 (dueSt acts runs (.val (.int p)) (.val (.int (bi x.1))) (.val (.int (bi x.2.1))) (.val (.str x.2.2)) s6) = some (.next (dueSt acts runs (.val (.int p)) (.val (.int (bi x.1))) (.val (.int (bi x.2.1))) (.val (.str x.2.2)) (.val (.int (onesA (x :: rest) : Nat))))) := by
    have e0 : cutf (fun σ => (getv 0 σ).bind asList) (fun σ => (getv 2 σ).bind asInt) (fun x => some none) (dueSt acts runs (.val (.int p)) (.val (.int (bi x.1))) (.val (.int (bi x.2.1))) (.val (.str x.2.2)) s6) = some ((x :: rest).map encA) := by
      have c := cut_from (acts.map encA) p (by rw [List.length_map]; omega)
      rw [← List.map_drop, hd] at c
      rw [← c]
      unfold cutf
      show (if _ then _ else _) = _
      rw [if_pos]
      rw [List.length_map]; exact lim_ge (by omega)
    have hl : ((x :: rest).map encA).length ≤ lim := by
      rw [List.length_map, ← hd, List.length_drop]; exact lim_ge (by omega)
    have e1 : (fun σ => Option.map PV.list ((cutf (fun σ => (getv 0 σ).bind asList) (fun σ => (getv 2 σ).bind asInt) (fun x => some none) σ).bind fun ds => if ds.length ≤ lim then (enterf [none] σ).bind fun σ' => compV (fun σ d => some (List.set σ 0 (Slot.val d))) (fun x => some true) (idxf (fun σ => (getv 0 σ).bind asTup) fun x => some (PV.int 0)) σ' ds else none))
        (dueSt acts runs (.val (.int p)) (.val (.int (bi x.1))) (.val (.int (bi x.2.1))) (.val (.str x.2.2)) s6) = some (.list (((x :: rest).map fun x => bi x.1).map PV.int)) := by
      dsimp only
      rw [e0, Option.bind_some, if_pos hl]
      rw [enter_none, Option.bind_some, first_of]; rfl
    unfold s__law_due_2
    dsimp only
    have e2 : callf sumV (consf (fun σ => Option.map PV.list ((cutf (fun σ => (getv 0 σ).bind asList) (fun σ => (getv 2 σ).bind asInt) (fun x => some none) σ).bind fun ds => if ds.length ≤ lim then (enterf [none] σ).bind fun σ' => compV (fun σ d => some (List.set σ 0 (Slot.val d))) (fun x => some true) (idxf (fun σ => (getv 0 σ).bind asTup) fun x => some (PV.int 0)) σ' ds else none)) fun x => some [])
        (dueSt acts runs (.val (.int p)) (.val (.int (bi x.1))) (.val (.int (bi x.2.1))) (.val (.str x.2.2)) s6) = some (.int (onesA (x :: rest) : Nat)) := by
      unfold callf consf
      rw [e1]
      show (intsOf _).map _ = _
      rw [intsOf_map, Option.map_some, kinds_sum]
    rw [e2]; rfl
  have q3 : ∃ t6, s__law_due_3.1 (dueSt acts runs (.val (.int p)) (.val (.int (bi x.1))) (.val (.int (bi x.2.1))) (.val (.str x.2.2)) (.val (.int (onesA (x :: rest) : Nat)))) =
      some (.next (dueSt acts (if x.1 then runs else if x.2.1 then onesA rest :: runs else runs ++ [onesA rest]) (.val (.int p)) (.val (.int (bi x.1))) (.val (.int (bi x.2.1))) (.val (.str x.2.2)) t6)) := by
    refine ⟨.val (.int (onesA (x :: rest) : Nat)), ?_⟩
    obtain ⟨k, a, e⟩ := x
    have e1 : opf eqV (getv 3) (fun x => some (PV.int 0)) (dueSt acts runs (.val (.int p)) (.val (.int (bi k))) (.val (.int (bi a))) (.val (.str e)) (.val (.int (onesA ((k, a, e) :: rest) : Nat)))) = some (!k) := eq_bi0 k
    have e2 : opf eqV (getv 4) (fun x => some (PV.int 1)) (dueSt acts runs (.val (.int p)) (.val (.int (bi k))) (.val (.int (bi a))) (.val (.str e)) (.val (.int (onesA ((k, a, e) :: rest) : Nat)))) = some a := eq_bi1 a
    have l1 : ∀ d : PV, [d].length ≤ lim := fun _ => lim_ge (by simp)
    have l2 : ∀ d : PV, [d].length + (runs.map fun (d : Nat) => PV.int d).length ≤ lim := fun _ => lim_ge (by rw [List.length_map, List.length_singleton]; omega)
    have l3 : ∀ d : PV, (runs.map fun (d : Nat) => PV.int d).length + [d].length ≤ lim := fun _ => lim_ge (by rw [List.length_map, List.length_singleton]; omega)
    unfold s__law_due_3
    dsimp only
    cases k with
    | true =>
      change _ = some false at e1
      rw [e1]
      dsimp only
      unfold seqf
      dsimp only
      rw [e1]; rfl
    | false =>
      change _ = some true at e1
      rw [e1]
      dsimp only
      rw [e2]
      have ho : onesA ((false, a, e) :: rest) = onesA rest := by rw [onesA_cons]; simp
      rw [ho] at e1 ⊢
      cases a with
      | true =>
        dsimp only
        have e3 : opf addV (fun σ => Option.map PV.list ((consf (getv 6) (fun x => some []) σ).bind fun ds => if ds.length ≤ lim then some ds else none)) (getv 1) (dueSt acts runs (.val (.int p)) (.val (.int (bi false))) (.val (.int (bi true))) (.val (.str e)) (.val (.int (onesA rest : Nat)))) = some (encN (onesA rest :: runs)) := by
          have e4 : (fun σ => Option.map PV.list ((consf (getv 6) (fun x => some []) σ).bind fun ds => if ds.length ≤ lim then some ds else none)) (dueSt acts runs (.val (.int p)) (.val (.int (bi false))) (.val (.int (bi true))) (.val (.str e)) (.val (.int (onesA rest : Nat)))) = some (.list [.int (onesA rest : Nat)]) := by
            show Option.map PV.list (if _ then _ else _) = _
            rw [if_pos (l1 _)]; rfl
          unfold opf
          rw [e4]
          show (if _ then _ else _) = _
          rw [if_pos (l2 _)]; rfl
        unfold seqf
        dsimp only
        rw [e3]; rfl
      | false =>
        dsimp only
        have e3 : opf addV (getv 1) (fun σ => Option.map PV.list ((consf (getv 6) (fun x => some []) σ).bind fun ds => if ds.length ≤ lim then some ds else none)) (dueSt acts runs (.val (.int p)) (.val (.int (bi false))) (.val (.int (bi false))) (.val (.str e)) (.val (.int (onesA rest : Nat)))) = some (encN (runs ++ [onesA rest])) := by
          have e4 : (fun σ => Option.map PV.list ((consf (getv 6) (fun x => some []) σ).bind fun ds => if ds.length ≤ lim then some ds else none)) (dueSt acts runs (.val (.int p)) (.val (.int (bi false))) (.val (.int (bi false))) (.val (.str e)) (.val (.int (onesA rest : Nat)))) = some (.list [.int (onesA rest : Nat)]) := by
            show Option.map PV.list (if _ then _ else _) = _
            rw [if_pos (l1 _)]; rfl
          unfold opf
          rw [e4]
          show (if _ then _ else _) = _
          rw [if_pos (l3 _)]
          show some (PV.list (_ ++ _)) = some (.list _)
          rw [List.map_append]; rfl
        unfold seqf
        dsimp only
        rw [e1]
        dsimp only
        rw [e3]; rfl
  obtain ⟨t6, q3⟩ := q3
  rw [seqf_next q1, seqf_next q2, seqf_next q3]
  exact ⟨_, _, _, _, _, rfl⟩
theorem go_len (acts : List Act) (runs : List Nat) : (go runs acts).length ≤ runs.length + acts.length := by
  have h := (go_perm acts runs).length_eq
  rw [List.length_append, Zw_len] at h
  have := len_oz (acts.map (·.1))
  rw [List.length_map] at this
  omega
theorem v_due (acts : List Act) (hn : acts.length ≤ 13) : callV 1 7 x__law_due.1 [.list (acts.map encA)] = some (encN (go [] acts)) := by
  have l0 : ([] : List PV).length ≤ lim := lim_ge (by simp)
  have q0 : s__law_due_0.1 [.val (.list (acts.map encA)), .empty, .empty, .empty, .empty, .empty, .empty] = some (.next (dueSt acts [] .empty .empty .empty .empty .empty)) := by
    unfold s__law_due_0
    dsimp only
    rw [Option.bind_some, if_pos l0]; rfl
  have er : ((consf (fun σ => ((getv 0 σ).bind asList).bind fun xs => if xs.length ≤ lim then some (PV.int ↑xs.length) else none) (fun x => some []) (dueSt acts [] .empty .empty .empty .empty .empty)).bind rangeV) = some ((List.range acts.length).map fun (i : Nat) => PV.int i) := by
    have e : (fun σ => ((getv 0 σ).bind asList).bind fun xs => if xs.length ≤ lim then some (PV.int ↑xs.length) else none) (dueSt acts [] .empty .empty .empty .empty .empty) = some (.int acts.length) := by
      show (if (acts.map encA).length ≤ lim then some (PV.int ↑(acts.map encA).length) else none) = _
      rw [List.length_map, if_pos (lim_ge (by omega))]
    unfold consf
    rw [e]
    show (if small (acts.length : Int) = true then some (rangeL 0 acts.length) else none) = _
    rw [if_pos (small_of (by omega) (by omega)), range_ints]
  obtain ⟨σ', q4, runs, s2, s3, s4, s5, s6, rfl, hg⟩ := forV_pre (bind := fun σ d => some (List.set σ 2 (Slot.val d))) (fb := seqf s__law_due_1.val (seqf s__law_due_2.val (seqf s__law_due_3.val fun σ => some (Out.next σ)))) (fun (i : Nat) => PV.int i)
    (fun pre σ => ∃ runs s2 s3 s4 s5 s6, σ = dueSt acts runs s2 s3 s4 s5 s6 ∧ (go runs (acts.drop pre.length) = go [] acts ∧ runs.length ≤ pre.length)) (List.range acts.length) [] (dueSt acts [] .empty .empty .empty .empty .empty) ⟨_, _, _, _, _, _, rfl, rfl, Nat.le_refl _⟩ (by
      rintro pre x suf σ he ⟨runs, s2, s3, s4, s5, s6, rfl, hg, hr⟩
      rw [List.nil_append] at he
      have hx : x = pre.length ∧ pre.length < acts.length := by
        have h1 := congrArg (fun l : List Nat => l[pre.length]?) he
        simp only [List.getElem?_append_right (Nat.le_refl _), Nat.sub_self, List.getElem?_cons_zero] at h1
        have h2 := congrArg List.length he
        simp at h2
        rw [List.getElem?_range (by omega)] at h1
        exact ⟨by injection h1 with h1; exact h1.symm, by omega⟩
      obtain ⟨rfl, hp⟩ := hx
      have hd : acts.drop pre.length = acts[pre.length] :: acts.drop (pre.length + 1) := List.drop_eq_getElem_cons hp
      obtain ⟨t2, t3, t4, t5, t6, e⟩ := due_step acts runs pre.length acts[pre.length] (acts.drop (pre.length + 1)) s3 s4 s5 s6 hn hp hd (by omega)
      refine ⟨_, _, rfl, e, _, _, _, _, _, _, rfl, ?_, ?_⟩
      · rw [← hg, hd, List.length_append, List.length_singleton]
        conv => rhs; rw [go]
        split
        · rfl
        · split <;> rfl
      · rw [List.length_append, List.length_singleton]
        split
        · omega
        · split
          · rw [List.length_cons]; omega
          · rw [List.length_append, List.length_singleton]; omega)
  rw [List.nil_append, List.length_range, List.drop_length] at hg
  have hg1 : runs = go [] acts := hg.1
  have q4' : s__law_due_4.1 (dueSt acts [] .empty .empty .empty .empty .empty) = some (.next (dueSt acts runs s2 s3 s4 s5 s6)) := by
    unfold s__law_due_4
    dsimp only
    rw [er]
    exact q4
  have e : x__law_due.1 [.val (.list (acts.map encA)), .empty, .empty, .empty, .empty, .empty, .empty] = some (.ret (encN (go [] acts))) := by
    unfold x__law_due
    dsimp only
    rw [seqf_next q0, seqf_next q4', ← hg1]
    rfl
  unfold callV
  show (x__law_due.1 [.val (.list (acts.map encA)), .empty, .empty, .empty, .empty, .empty, .empty]).bind outRet = _
  rw [e]; rfl
theorem sortD_perm_eq {r S : List Nat} (hp : r.Perm S) (hs : S.Pairwise (· ≥ ·)) : sortD (r.map Int.ofNat) = S.map Int.ofNat := by
  refine perm_sorted_eq ((sortD_perm _).trans (hp.map _)) (sortD_sorted _) ?_
  rw [List.pairwise_map]
  exact hs.imp fun h => Int.ofNat_le.mpr h
noncomputable def colSt (tabs size : Nat) (runs S : List Nat) (m : Slot) : St := [.val (.int tabs), .val (encN runs), .val (.int size), m, .val (encN S)]
theorem v_column (tabs size : Nat) (runs S : List Nat) (hp : runs.Perm S) (hs : S.Pairwise (· ≥ ·)) (hl : runs.length ≤ 13) (h0 : 0 < size) (h1 : size ≤ 13) (ht : tabs ≤ 13) :
    callV 3 5 x__law_column.1 [.int tabs, encN runs, .int size] = some (.int (size * (tabs + (met size S).sum) : Nat)) := by
  have hlS : S.length ≤ 13 := by rw [← hp.length_eq]; exact hl
  have q0 : s__law_column_0.1 [.val (.int tabs), .val (encN runs), .val (.int size), .empty, .empty] = some (.next (colSt tabs size runs S .empty)) := by
    have e : sortedV (encN runs) = some (encN S) := by
      rw [encN_int, encN_int]
      unfold sortedV asList
      dsimp only
      rw [Option.bind_some, if_pos (by rw [List.length_map, List.length_map]; omega), intsOf_map, Option.map_some, sortD_perm_eq hp hs]
    unfold s__law_column_0
    dsimp only
    show Option.map _ (sortedV (encN runs)) = _
    rw [e]; rfl
  have q1 : s__law_column_1.1 (colSt tabs size runs S .empty) = some (.next (colSt tabs size runs S (.own ((met size S).map fun (d : Nat) => PV.int d)))) := by
    have er : ((consf (fun σ => ((getv 4 σ).bind asList).bind fun xs => if xs.length ≤ lim then some (PV.int ↑xs.length) else none) (fun x => some []) (colSt tabs size runs S .empty)).bind rangeV) = some ((List.range S.length).map fun (i : Nat) => PV.int i) := by
      have e : (fun σ => ((getv 4 σ).bind asList).bind fun xs => if xs.length ≤ lim then some (PV.int ↑xs.length) else none) (colSt tabs size runs S .empty) = some (.int S.length) := by
        show (if (S.map fun (d : Nat) => PV.int d).length ≤ lim then some (PV.int ↑(S.map fun (d : Nat) => PV.int d).length) else none) = _
        rw [List.length_map, if_pos (lim_ge (by omega))]
      unfold consf
      rw [e]
      show (if small (S.length : Int) = true then some (rangeL 0 S.length) else none) = _
      rw [if_pos (small_of (by omega) (by omega)), range_ints]
    have ec : compV (fun σ d => some (List.set σ 0 (Slot.val d))) (opf eqV (opf fmodV (opf addV (getv 0) fun x => some (PV.int 1)) (getv 1)) fun x => some (PV.int 0)) (idxf (fun σ => (getv 2 σ).bind asList) (getv 0)) [.empty, .val (.int size), .val (encN S)] ((List.range S.length).map fun (i : Nat) => PV.int i) = some ((met size S).map fun (d : Nat) => PV.int d) := by
      have h := compV_rel (bind := fun σ d => some (List.set σ 0 (Slot.val d))) (ft := opf eqV (opf fmodV (opf addV (getv 0) fun x => some (PV.int 1)) (getv 1)) fun x => some (PV.int 0)) (fe := idxf (fun σ => (getv 2 σ).bind asList) (getv 0)) (fun (i : Nat) => PV.int i) (fun k => (k + 1) % size == 0) (fun k => .int (S.getD k 0 : Nat))
        (fun σ => ∃ s, σ = [s, .val (.int size), .val (encN S)]) (List.range S.length) [.empty, .val (.int size), .val (encN S)] ⟨_, rfl⟩ (by
        rintro σ k hk ⟨s, rfl⟩
        have hk' := List.mem_range.mp hk
        refine ⟨[.val (.int k), .val (.int size), .val (encN S)], rfl, ?_, fun _ => ?_, _, rfl⟩
        · have e1 : opf fmodV (opf addV (getv 0) fun x => some (PV.int 1)) (getv 1) [.val (.int k), .val (.int size), .val (encN S)] = some (.int ((k + 1) % size : Nat)) := by
            show (if (0 : Int) < size ∧ (size : Int) < big then some (PV.int (((k : Int) + 1).fmod size)) else none) = _
            rw [if_pos ⟨by omega, big_gt (by omega)⟩, Int.fmod_eq_emod_of_nonneg _ (by omega)]
            rfl
          unfold opf at e1 ⊢
          rw [e1]
          dsimp only
          rw [eqV_int]
          congr 1
          rw [Bool.eq_iff_iff, decide_eq_true_eq, beq_iff_eq]
          omega
        · show idxV (S.map fun (d : Nat) => PV.int d) k = _
          unfold idxV
          rw [if_pos ⟨by omega, big_gt (by omega)⟩, Int.toNat_natCast, List.getElem?_map, List.getD_eq_getElem?_getD, List.getElem?_eq_getElem hk']
          rfl)
      rw [h]
      unfold met
      rw [List.map_map]; rfl
    unfold s__law_column_1
    dsimp only
    rw [er, Option.bind_some, if_pos (by rw [List.length_map, List.length_range]; exact lim_ge (by omega))]
    have en : enterf [none, some 2, some 4] (colSt tabs size runs S .empty) = some [.empty, .val (.int size), .val (encN S)] := rfl
    rw [en, Option.bind_some, ec]; rfl
  have q2 : s__law_column_2.1 (colSt tabs size runs S (.val (encN (met size S)))) = some (.ret (.int (size * (tabs + (met size S).sum) : Nat))) := by
    have e1 : callf sumV (consf (getv 3) fun x => some []) (colSt tabs size runs S (.val (encN (met size S)))) = some (.int ((met size S).sum : Nat)) := by
      show sumV [encN (met size S)] = _
      rw [encN_int]
      show (intsOf _).map _ = _
      rw [intsOf_map, Option.map_some, sum_int]
    unfold s__law_column_2
    dsimp only
    unfold opf
    rw [e1]
    show Option.map Out.ret (if small (size : Int) || small _ then _ else none) = _
    rw [small_of (a := (size : Int)) (by omega) (by omega), Bool.true_or, if_pos rfl]
    show some (Out.ret (.int _)) = _
    congr 3
  have e : x__law_column.1 [.val (.int tabs), .val (encN runs), .val (.int size), .empty, .empty] = some (.ret (.int (size * (tabs + (met size S).sum) : Nat))) := by
    unfold x__law_column
    dsimp only
    rw [seqf_next q0, seqf_next q1]
    have ef : freeze 3 (colSt tabs size runs S (.own ((met size S).map fun (d : Nat) => PV.int d))) = colSt tabs size runs S (.val (encN (met size S))) := rfl
    rw [ef, seqf_ret q2]
  unfold callV
  show (x__law_column.1 [.val (.int tabs), .val (encN runs), .val (.int size), .empty, .empty]).bind outRet = _
  rw [e]; rfl
end
end L01
end Mine
end
section
open PySem PySem.W PySem.Calls PyProof.Rows
set_option Elab.async false
set_option maxRecDepth 100000
namespace Mine
namespace L01
noncomputable section
noncomputable def endsL : List (List Nat) := [[10], [13], [13, 10]]
noncomputable def actOf (x : Int) : Act := (decide (x.fmod 2 = 1), decide ((x.fdiv 2).fmod 2 = 1), endsL.getD ((x.fdiv 4).fmod 3).toNat [])
noncomputable def base : List Act := [(false, false, [10]), (false, true, [13]), (true, false, [])]
noncomputable def endsV : PV := .list [.str [10], .str [13], .str [13, 10]]
theorem fmod_in (x : Int) {m : Int} (h : 0 < m) : 0 ≤ x.fmod m ∧ x.fmod m < m := by
  rw [Int.fmod_eq_emod_of_nonneg x (by omega)]
  exact ⟨Int.emod_nonneg x (by omega), Int.emod_lt_of_pos x h⟩
theorem bi_two (y : Int) (h : 0 ≤ y ∧ y < 2) : bi (decide (y = 1)) = y := by
  unfold bi
  by_cases e : y = 1
  · simp [e]
  · have : y = 0 := by omega
    simp [this]
theorem three (i : Int) (h : 0 ≤ i ∧ i < 3) : i.toNat = 0 ∨ i.toNat = 1 ∨ i.toNat = 2 := by omega
theorem actOf_valid (x : Int) : valid (actOf x) := fun _ => by
  show isE (endsL.getD ((x.fdiv 4).fmod 3).toNat [])
  rcases three _ (fmod_in (x.fdiv 4) (m := 3) (by omega)) with h | h | h <;> rw [h]
  · exact .inl rfl
  · exact .inr (.inl rfl)
  · exact .inr (.inr rfl)
theorem base_valid : ∀ x ∈ base, valid x := by
  intro x hx
  simp only [base, List.mem_cons, List.not_mem_nil, or_false] at hx
  rcases hx with rfl | rfl | rfl
  · exact fun _ => .inl rfl
  · exact fun _ => .inr (.inl rfl)
  · intro h; cases h
theorem fmodV_of (x m : Int) (h : 0 < m) (h' : m < 1000) : fmodV (.int x) (.int m) = some (.int (x.fmod m)) := by
  unfold fmodV; dsimp only; rw [if_pos ⟨h, big_gt (by omega)⟩]
theorem fdivV_of (x m : Int) (h : 0 < m) (h' : m < 1000) : fdivV (.int x) (.int m) = some (.int (x.fdiv m)) := by
  unfold fdivV; dsimp only; rw [if_pos ⟨h, big_gt (by omega)⟩]
theorem at_ends (i : Int) (h : 0 ≤ i ∧ i < 3) : idxV [.str [10], .str [13], .str [13, 10]] i = some (.str (endsL.getD i.toNat [])) := by
  unfold idxV
  rw [if_pos ⟨h.1, big_gt (by omega)⟩]
  rcases three i h with h | h | h <;> rw [h] <;> rfl
noncomputable def st1 (sc : PV) (acts : List Act) (x : Slot) (t : List Slot) : St := .val sc :: .val endsV :: .own (acts.map encA) :: x :: t
theorem act_step (sc : PV) (acts : List Act) (x : Int) (t : List Slot) (hl : acts.length ≤ 1000) : s_law_2.1 (st1 sc acts (.val (.int x)) t) = some (.next (st1 sc (acts ++ [actOf x]) (.val (.int x)) t)) := by
  have l3 : ∀ a b c : PV, [a, b, c].length ≤ lim := fun a b c => lim_ge (by simp)
  have hlim : (acts.map encA).length < lim := by rw [List.length_map]; exact lim_gt (by omega)
  have e1 : opf fmodV (getv 3) (fun x => some (PV.int 2)) (st1 sc acts (.val (.int x)) t) = some (.int (x.fmod 2)) := fmodV_of x 2 (by omega) (by omega)
  have e2 : opf fmodV (opf fdivV (getv 3) fun x => some (PV.int 2)) (fun x => some (PV.int 2)) (st1 sc acts (.val (.int x)) t) = some (.int ((x.fdiv 2).fmod 2)) := by
    have e : opf fdivV (getv 3) (fun x => some (PV.int 2)) (st1 sc acts (.val (.int x)) t) = some (.int (x.fdiv 2)) := fdivV_of x 2 (by omega) (by omega)
    unfold opf at e ⊢
    rw [e]
    exact fmodV_of _ 2 (by omega) (by omega)
  have e3 : idxf (fun σ => (getv 1 σ).bind asList) (opf fmodV (opf fdivV (getv 3) fun x => some (PV.int 4)) fun x => some (PV.int 3)) (st1 sc acts (.val (.int x)) t) = some (.str (endsL.getD ((x.fdiv 4).fmod 3).toNat [])) := by
    have e : opf fmodV (opf fdivV (getv 3) fun x => some (PV.int 4)) (fun x => some (PV.int 3)) (st1 sc acts (.val (.int x)) t) = some (.int ((x.fdiv 4).fmod 3)) := by
      have e : opf fdivV (getv 3) (fun x => some (PV.int 4)) (st1 sc acts (.val (.int x)) t) = some (.int (x.fdiv 4)) := fdivV_of x 4 (by omega) (by omega)
      unfold opf at e ⊢
      rw [e]
      exact fmodV_of _ 3 (by omega) (by omega)
    unfold idxf
    rw [e]
    exact at_ends _ (fmod_in _ (by omega))
  have e4 : (consf (opf fmodV (getv 3) fun x => some (PV.int 2)) (consf (opf fmodV (opf fdivV (getv 3) fun x => some (PV.int 2)) fun x => some (PV.int 2)) (consf (idxf (fun σ => (getv 1 σ).bind asList) (opf fmodV (opf fdivV (getv 3) fun x => some (PV.int 4)) fun x => some (PV.int 3))) fun x => some [])) (st1 sc acts (.val (.int x)) t)) =
      some [.int (bi (actOf x).1), .int (bi (actOf x).2.1), .str (actOf x).2.2] := by
    have b1 : bi (actOf x).1 = x.fmod 2 := bi_two _ (fmod_in x (by omega))
    have b2 : bi (actOf x).2.1 = (x.fdiv 2).fmod 2 := bi_two _ (fmod_in _ (by omega))
    rw [b1, b2]
    unfold consf
    rw [e1]
    dsimp only
    rw [e2]
    dsimp only
    rw [e3]; rfl
  unfold s_law_2
  dsimp only
  rw [e4, Option.bind_some, if_pos (l3 _ _ _)]
  show (if (acts.map encA).length < lim then _ else _) = _
  rw [if_pos hlim]
  show some (Out.next (_ :: _ :: Slot.own (acts.map encA ++ [_]) :: _)) = _
  unfold st1
  rw [List.map_append]; rfl
theorem cut_ten (xs : List PV) : cutV xs none (some 10) = xs.take 10 := by
  unfold cutV
  show (xs.drop 0).take (clipAt xs.length 10 - 0) = _
  have : clipAt xs.length 10 = min 10 xs.length := by unfold clipAt; omega
  rw [List.drop_zero, Nat.sub_zero, this]
  by_cases h : 10 ≤ xs.length
  · rw [Nat.min_eq_left h]
  · rw [Nat.min_eq_right (by omega), List.take_of_length_le (Nat.le_refl _), List.take_of_length_le (by omega)]
noncomputable def actsOf (ns : List Int) : List Act := base ++ (ns.take 10).map actOf
theorem acts_loop (ns : List Int) (hn : ns.length ≤ 1000) (x : Slot) (t : List Slot) : ∃ y, s_law_3.1 (st1 (.list (ns.map .int)) base x t) = some (.next (st1 (.list (ns.map .int)) (actsOf ns) y t)) := by
  have hc : cutf (fun σ => (getv 0 σ).bind asList) (fun x => some none) (fun σ => (some (PV.int 10)).bind asInt) (st1 (.list (ns.map .int)) base x t) = some ((ns.take 10).map PV.int) := by
    unfold cutf
    show (if (ns.map PV.int).length ≤ lim then some (cutV (ns.map PV.int) none (some 10)) else none) = _
    rw [List.length_map, if_pos (lim_ge (by omega)), cut_ten, List.map_take]
  have hl : (ns.take 10).length ≤ 10 := by rw [List.length_take]; omega
  obtain ⟨σ', e, y, rfl⟩ := forV_pre (bind := fun σ d => some (List.set σ 3 (Slot.val d))) (fb := seqf s_law_2.val fun σ => some (Out.next σ)) PV.int
    (fun pre σ => ∃ y, σ = st1 (.list (ns.map .int)) (base ++ pre.map actOf) y t) (ns.take 10) [] (st1 (.list (ns.map .int)) base x t) ⟨x, rfl⟩ (by
      rintro pre z suf σ he ⟨y, rfl⟩
      rw [List.nil_append] at he
      have hp : pre.length ≤ 10 := by rw [he] at hl; simp at hl; omega
      refine ⟨_, _, rfl, seqf_next (act_step _ (base ++ pre.map actOf) z t (by simp [base]; omega)), .val (.int z), ?_⟩
      rw [List.map_append, List.append_assoc]; rfl)
  refine ⟨y, ?_⟩
  unfold s_law_3
  dsimp only
  rw [hc]
  exact e
end
end L01
end Mine
end
section
open PySem PySem.W PySem.Calls PyProof.Rows
set_option Elab.async false
set_option maxRecDepth 100000
namespace Mine
namespace L01
noncomputable section
noncomputable def full (sc A y T R C L d u l f s sh sz h th m : Slot) : St := [sc, .val endsV, A, y, T, R, C, L, d, u, l, f, s, sh, sz, h, th, m]
noncomputable def aL (acts : List Act) : PV := .list (acts.map encA)
variable (sc A y T R C L d u l f s sh sz h th m : Slot)
theorem k4 (acts : List Act) (hn : acts.length ≤ 13) : s_law_4.1 (full sc (.val (aL acts)) y T R C L d u l f s sh sz h th m) = some (.next (full sc (.val (aL acts)) y (.own ((acts.reverse.map turn1).map encA)) R C L d u l f s sh sz h th m)) := by
  have l3 : ∀ a b c : PV, [a, b, c].length ≤ lim := fun a b c => lim_ge (by simp)
  have hcr : (Str.ofString "\r\n").cps.toList = [13, 10] := by decide +kernel
  have e1 : ((getv 2 (full sc (.val (aL acts)) y T R C L d u l f s sh sz h th m)).bind asList).bind (fun xs => if xs.length ≤ lim then some xs.reverse else none) = some (acts.reverse.map encA) := by
    show (if (acts.map encA).length ≤ lim then some (acts.map encA).reverse else none) = _
    rw [if_pos (by rw [List.length_map]; exact lim_ge (by omega)), List.map_reverse]
  have ec := compV_rel (bind := bindSeq 3 [0, 1, 2]) (ft := fun x => some true) (fe := fun σ => (consf (opf subV (fun x => some (PV.int 1)) (getv 0)) (consf (fun x => some (PV.int 0)) (consf (fun x => some (PV.str (Str.ofString "\r\n").cps.toList)) fun x => some [])) σ).bind fun ds => if ds.length ≤ lim then some (PV.tup ds) else none) encA (fun _ => true) (fun x => encA (turn1 x))
    (fun σ => ∃ a b c, σ = [a, b, c]) acts.reverse [.empty, .empty, .empty] ⟨_, _, _, rfl⟩ (by
      rintro σ x _ ⟨a, b, c, rfl⟩
      refine ⟨[.val (.int (bi x.1)), .val (.int (bi x.2.1)), .val (.str x.2.2)], rfl, rfl, fun _ => ?_, _, _, _, rfl⟩
      rw [hcr]
      show (if [PV.int (1 - bi x.1), .int 0, .str [13, 10]].length ≤ lim then some (PV.tup [.int (1 - bi x.1), .int 0, .str [13, 10]]) else none) = _
      rw [if_pos (l3 _ _ _)]
      have : bi (!x.1) = 1 - bi x.1 := by cases x.1 <;> rfl
      unfold turn1 encA
      dsimp only
      rw [this]; rfl)
  unfold s_law_4
  dsimp only
  rw [e1, Option.bind_some, if_pos (by rw [List.length_map, List.length_reverse]; exact lim_ge (by omega))]
  have en : enterf [none, none, none] (full sc (.val (aL acts)) y T R C L d u l f s sh sz h th m) = some [.empty, .empty, .empty] := rfl
  rw [en, Option.bind_some]
  have ec' := ec
  rw [List.filter_eq_self.mpr (fun _ _ => rfl)] at ec'
  show Option.map _ (compV (bindSeq 3 [0, 1, 2]) _ _ _ _) = _
  rw [ec', List.map_map]; rfl
theorem k5 (acts : List Act) (hn : acts.length ≤ 13) : s_law_5.1 (full sc (.val (aL acts)) y T R C L d u l f s sh sz h th m) = some (.next (full sc (.val (aL acts)) y T (.val (encN (go [] acts))) C L d u l f s sh sz h th m)) := by
  unfold s_law_5
  show Option.map _ (callV 1 7 x__law_due.val [.list (acts.map encA)]) = _
  rw [v_due acts hn]; rfl
theorem k6 (acts : List Act) (hn : acts.length ≤ 13) : s_law_6.1 (full sc A y (.val (aL acts)) R C L d u l f s sh sz h th m) = some (.next (full sc A y (.val (aL acts)) R (.val (encN (go [] acts))) L d u l f s sh sz h th m)) := by
  unfold s_law_6
  show Option.map _ (callV 1 7 x__law_due.val [.list (acts.map encA)]) = _
  rw [v_due acts hn]; rfl
theorem k7 : s_law_7.1 (full sc A y T R C L d u l f s sh sz h th m) = some (.next (full sc A y T R C (.own []) d u l f s sh sz h th m)) := by
  have l0 : ([] : List PV).length ≤ lim := lim_ge (by simp)
  unfold s_law_7
  dsimp only
  rw [Option.bind_some, if_pos l0]; rfl
theorem k8 (acts : List Act) (hn : acts.length ≤ 13) (hv : ∀ x ∈ acts, valid x) : s_law_8.1 (full sc A y T R C L (.val (aL acts)) u l f s sh sz h th m) = some (.next (full sc A y T R C L (.val (aL acts)) u (.val (.str (lead (go [] acts)))) f s sh sz h th m)) := by
  have c1 : (Str.ofString ".\r\n").cps.toList = [46, 13, 10] := by decide +kernel
  have c2 : (Str.ofString "\t").cps.toList = [9] := by decide +kernel
  have c3 : (Str.ofString ".").cps.toList = [46] := by decide +kernel
  have c4 : (Str.ofString " ").cps.toList = [32] := by decide +kernel
  have hgl := go_len acts []
  have hlen : (crl ((go [] acts).map (· + 1))).length ≤ 100000 := by
    have hb := rowsOf_Bd acts hv
    have h1 := eolFix_len (mt (rowsOf acts))
    rw [eolFix_mt _ hb.ok, rowsOf_go] at h1
    have := hb.len hn
    omega
  have e := v_replace (crl ((go [] acts).map (· + 1))) [46, 13, 10] [9] [46] [32] hlen (by simp) rfl (by decide +kernel) (by simp) rfl (by decide +kernel)
  rw [repl_crl3, repl_dl] at e
  unfold s_law_8
  dsimp only
  rw [c1, c2, c3, c4]
  have e2 : consf (callf (callV 1 5 x__law_mail.val) (consf (getv 8) fun x => some [])) (consf (fun x => some (PV.str [46, 13, 10])) (consf (fun x => some (PV.str [9])) (consf (fun x => some (PV.str [46])) (consf (fun x => some (PV.str [32])) fun x => some [])))) (full sc A y T R C L (.val (aL acts)) u l f s sh sz h th m) =
      some [.str (crl ((go [] acts).map (· + 1))), .str [46, 13, 10], .str [9], .str [46], .str [32]] := by
    have e3 : callf (callV 1 5 x__law_mail.val) (consf (getv 8) fun x => some []) (full sc A y T R C L (.val (aL acts)) u l f s sh sz h th m) = some (.str (crl ((go [] acts).map (· + 1)))) := v_mail acts hn hv
    exact consf_of e3 rfl
  rw [callf_of e2]
  change Option.map _ (repV [.str (crl ((go [] acts).map (· + 1))), .str [46, 13, 10], .str [9], .str [46], .str [32]]) = _
  rw [e]; rfl
theorem mem_le_sum {d : Nat} : ∀ {r : List Nat}, d ∈ r → d ≤ r.sum
  | x :: r, h => by
    rw [List.sum_cons]
    rcases List.mem_cons.mp h with rfl | h
    · omega
    · have := mem_le_sum h; omega
theorem join_lead : ∀ r : List Nat, (r.map fun d => List.replicate d 32 ++ [9]).flatten = lead r
  | [] => rfl
  | d :: r => by rw [List.map_cons, List.flatten_cons, join_lead r, lead]; simp
theorem k9 (r : List Nat) (hr : r.length ≤ 13) (hs : r.sum ≤ 1000) : s_law_9.1 (full sc A y T R C L d (.val (encN r)) (.val (.str (lead r))) f s sh sz h th m) = some (.next (full sc A y T R C L d (.val (encN r)) (.val (.str (lead r))) f s sh sz h th m)) := by
  have c1 : (Str.ofString "").cps.toList = [] := by decide +kernel
  have c2 : (Str.ofString "\t").cps.toList = [9] := by decide +kernel
  have c4 : (Str.ofString " ").cps.toList = [32] := by decide +kernel
  have hd : ∀ d ∈ r, d ≤ 1000 := fun d hd => by have := mem_le_sum hd; omega
  have ec := compV_rel (bind := fun σ d => some (List.set σ 0 (Slot.val d))) (ft := fun x => some true) (fe := opf addV (opf mulV (fun x => some (PV.str [32])) (getv 0)) fun x => some (PV.str [9])) (fun (d : Nat) => PV.int d) (fun _ => true) (fun d => .str (List.replicate d 32 ++ [9]))
    (fun σ => ∃ s, σ = [s]) r [.empty] ⟨_, rfl⟩ (by
      rintro σ x hx ⟨a, rfl⟩
      refine ⟨[.val (.int x)], rfl, rfl, fun _ => ?_, _, rfl⟩
      have hx' := hd x hx
      have e1 : opf mulV (fun x => some (PV.str [32])) (getv 0) [.val (.int x)] = some (.str (List.replicate x 32)) := by
        show (if small (x : Int) && decide ([32].length * (x : Int).toNat ≤ lim) then some (PV.str (rep (x : Int).toNat [32])) else none) = _
        rw [Int.toNat_natCast, small_of (by omega) (by omega), Bool.true_and, if_pos (decide_eq_true (lim_ge (by rw [List.length_singleton]; omega))), rep_one_list]
      unfold opf at e1 ⊢
      rw [e1]
      show (if (List.replicate x 32).length + [9].length ≤ lim then _ else _) = _
      rw [if_pos (lim_ge (by rw [List.length_replicate, List.length_singleton]; omega))])
  rw [List.filter_eq_self.mpr (fun _ _ => rfl)] at ec
  unfold s_law_9
  dsimp only
  rw [c1, c2, c4]
  have e1 : (fun σ => Option.map PV.list (((getv 9 σ).bind asList).bind fun ds => if ds.length ≤ lim then (enterf [none] σ).bind fun σ' => compV (fun σ d => some (List.set σ 0 (Slot.val d))) (fun x => some true) (opf addV (opf mulV (fun x => some (PV.str [32])) (getv 0)) fun x => some (PV.str [9])) σ' ds else none)) (full sc A y T R C L d (.val (encN r)) (.val (.str (lead r))) f s sh sz h th m) = some (.list (r.map fun d => .str (List.replicate d 32 ++ [9]))) := by
    have e0 : (getv 9 (full sc A y T R C L d (.val (encN r)) (.val (.str (lead r))) f s sh sz h th m)).bind asList = some (r.map fun (d : Nat) => PV.int d) := rfl
    dsimp only
    rw [e0, Option.bind_some, if_pos (by rw [List.length_map]; exact lim_ge (by omega)), enter_none, Option.bind_some, ec]; rfl
  have e2 : methf joinV (fun x => some (PV.str [])) (consf (fun σ => Option.map PV.list (((getv 9 σ).bind asList).bind fun ds => if ds.length ≤ lim then (enterf [none] σ).bind fun σ' => compV (fun σ d => some (List.set σ 0 (Slot.val d))) (fun x => some true) (opf addV (opf mulV (fun x => some (PV.str [32])) (getv 0)) fun x => some (PV.str [9])) σ' ds else none)) fun x => some []) (full sc A y T R C L d (.val (encN r)) (.val (.str (lead r))) f s sh sz h th m) = some (.str (lead r)) := by
    unfold methf consf
    rw [e1]
    show joinV [.str [], .list (r.map fun d => .str (List.replicate d 32 ++ [9]))] = _
    have e3 : (r.map fun d => PV.str (List.replicate d 32 ++ [9])) = (r.map fun d => List.replicate d 32 ++ [9]).map PV.str := by rw [List.map_map]; rfl
    rw [e3]
    unfold joinV
    dsimp only
    rw [strsOf_map, Option.bind_some, flat_join, join_lead, if_pos]
    rw [← List.length_flatten, join_lead, lead_len, List.length_map, List.length_nil]
    exact lim_ge (by omega)
  have e5 : opf neV (getv 10) (methf joinV (fun x => some (PV.str [])) (consf (fun σ => Option.map PV.list (((getv 9 σ).bind asList).bind fun ds => if ds.length ≤ lim then (enterf [none] σ).bind fun σ' => compV (fun σ d => some (List.set σ 0 (Slot.val d))) (fun x => some true) (opf addV (opf mulV (fun x => some (PV.str [32])) (getv 0)) fun x => some (PV.str [9])) σ' ds else none)) fun x => some [])) (full sc A y T R C L d (.val (encN r)) (.val (.str (lead r))) f s sh sz h th m) = some false := by
    rw [opf_of (x := .str (lead r)) rfl e2]
    unfold neV
    rw [eqV_str, decide_eq_true rfl]; rfl
  rw [e5]
noncomputable def leadV (r : List Nat) : PV := wi (lead r ++ [122, 32, 9]) r
theorem k10 (r : List Nat) (xs : List PV) (hr : r.length ≤ 13) (hs : r.sum ≤ 1000) (hx : xs.length ≤ 10) : s_law_10.1 (full sc A y T R C (.own xs) d u (.val (.str (lead r))) f s sh sz h th m) = some (.next (full sc A y T R C (.own (xs ++ [leadV r])) d u (.val (.str (lead r))) f s sh sz h th m)) := by
  have c1 : (Str.ofString "z \t").cps.toList = [122, 32, 9] := by decide +kernel
  have e := v_ws r [122, 32, 9] (.inr ⟨122, [32, 9], rfl, by decide, by decide⟩) (by rw [List.length_append, lead_len]; simp; omega)
  unfold s_law_10
  dsimp only
  rw [c1]
  have e1 : callf V_Whitespace (consf (opf addV (getv 10) fun x => some (PV.str [122, 32, 9])) fun x => some []) (full sc A y T R C (.own xs) d u (.val (.str (lead r))) f s sh sz h th m) = some (leadV r) := by
    have e2 : opf addV (getv 10) (fun x => some (PV.str [122, 32, 9])) (full sc A y T R C (.own xs) d u (.val (.str (lead r))) f s sh sz h th m) = some (.str (lead r ++ [122, 32, 9])) := by
      show (if (lead r).length + [122, 32, 9].length ≤ lim then _ else _) = _
      rw [if_pos (lim_ge (by rw [lead_len]; simp; omega))]
    rw [callf_of (consf_of e2 rfl)]
    exact e
  rw [e1]
  show (if xs.length < lim then _ else _) = _
  rw [if_pos (lim_gt (by omega))]; rfl
end
end L01
end Mine
end
section
open PySem PySem.W PySem.Calls PyProof.Rows
set_option Elab.async false
set_option maxRecDepth 100000
namespace Mine
namespace L01
noncomputable section
section
variable (sc A y T R C L d u l f s sh sz h th m : Slot)
theorem k12 (a b : PV) : s_law_12.1 (full sc A y T R C (.val (.list [a, b])) d u l f s sh sz h th m) = some (.next (full sc A y T R C (.val (.list [a, b])) d u l (.val a) (.val b) sh sz h th m)) := by rfl
theorem k13 (r c : List Nat) (e : r.sum = c.sum) : s_law_13.1 (full sc A y T R C L d u l (.val (leadV r)) (.val (leadV c)) sh sz h th m) = some (.next (full sc A y T R C L d u l (.val (leadV r)) (.val (leadV c)) sh sz h th m)) := by
  unfold s_law_13
  have e1 : opf neV (opf subV (fun σ => (getv 11 σ).bind (instAttr 131 (Str.ofString "n"))) fun σ => (getv 11 σ).bind (instAttr 131 (Str.ofString "nt"))) (opf subV (fun σ => (getv 12 σ).bind (instAttr 131 (Str.ofString "n"))) fun σ => (getv 12 σ).bind (instAttr 131 (Str.ofString "nt"))) (full sc A y T R C L d u l (.val (leadV r)) (.val (leadV c)) sh sz h th m) = some false := by
    show neV (.int (((r.sum + r.length : Nat) : Int) - (r.length : Int))) (.int (((c.sum + c.length : Nat) : Int) - (c.length : Int))) = _
    unfold neV
    rw [eqV_int, decide_eq_true (by omega)]; rfl
  dsimp only
  rw [e1]
theorem k14 : s_law_14.1 (full sc A y T R C L d u l f s sh sz h th m) = some (.next (full sc A y T R C L d u l f s (.val (.bool true)) sz h th m)) := by rfl
theorem len_at (r : List Nat) (hr : r.length ≤ 13) : (if (r.map fun (d : Nat) => PV.int d).length ≤ lim then some (PV.int ↑(r.map fun (d : Nat) => PV.int d).length) else none) = some (.int r.length) := by
  rw [List.length_map, if_pos (lim_ge (by omega))]
theorem k15 (r c S : List Nat) (size : Nat) (hr : r.length ≤ 13) (hp : c.Perm S) (hs : S.Pairwise (· ≥ ·)) (hl : c.length ≤ 13) (h0 : 0 < size) (h1 : size ≤ 13) :
    s_law_15.1 (full sc A y T (.val (encN r)) (.val (encN c)) L d u l f s sh (.val (.int size)) h th m) = some (.next (full sc A y T (.val (encN r)) (.val (encN c)) L d u l f s sh (.val (.int size)) (.val (.int (size * (r.length + (met size S).sum) : Nat))) th m)) := by
  have e1 : (consf (fun σ => ((getv 5 σ).bind asList).bind fun xs => if xs.length ≤ lim then some (PV.int ↑xs.length) else none) (consf (getv 6) (consf (getv 14) fun x => some []))) (full sc A y T (.val (encN r)) (.val (encN c)) L d u l f s sh (.val (.int size)) h th m) = some [.int r.length, encN c, .int size] :=
    consf_of (len_at r hr) (consf_of rfl (consf_of rfl rfl))
  unfold s_law_15
  dsimp only
  rw [callf_of e1, v_column r.length size c S hp hs hl h0 h1 hr]; rfl
theorem k16 (r c S : List Nat) (size : Nat) (hr : c.length ≤ 13) (hp : r.Perm S) (hs : S.Pairwise (· ≥ ·)) (hl : r.length ≤ 13) (h0 : 0 < size) (h1 : size ≤ 13) :
    s_law_16.1 (full sc A y T (.val (encN r)) (.val (encN c)) L d u l f s sh (.val (.int size)) h th m) = some (.next (full sc A y T (.val (encN r)) (.val (encN c)) L d u l f s sh (.val (.int size)) h (.val (.int (size * (c.length + (met size S).sum) : Nat))) m)) := by
  have e1 : (consf (fun σ => ((getv 6 σ).bind asList).bind fun xs => if xs.length ≤ lim then some (PV.int ↑xs.length) else none) (consf (getv 5) (consf (getv 14) fun x => some []))) (full sc A y T (.val (encN r)) (.val (encN c)) L d u l f s sh (.val (.int size)) h th m) = some [.int c.length, encN r, .int size] :=
    consf_of (len_at c hr) (consf_of rfl (consf_of rfl rfl))
  unfold s_law_16
  dsimp only
  rw [callf_of e1, v_column c.length size r S hp hs hl h0 h1 hr]; rfl
theorem methI_of {F : List PV → Option PV} {fo : St → Option PV} {fs : St → Option (List PV)} {σ : St} {name : Str} {o : PV} {ds : List PV} (h1 : fo σ = some o) (h2 : asInst 131 name o = some o) (h3 : fs σ = some ds) : methI 131 name F fo fs σ = F (o :: ds) := by
  unfold methI; rw [h1, Option.bind_some, h2, Option.bind_some, h3]; rfl
theorem k17 (r c : List Nat) (size : Nat) (hr : top r ≤ 500) (hc : top c ≤ 500) (h0 : 0 < size) (h1 : size ≤ 13) :
    s_law_17.1 (full sc A y T R C L d u l (.val (leadV r)) (.val (leadV c)) sh (.val (.int size)) (.val (.int (ilv r size : Nat))) (.val (.int (ilv c size : Nat))) m) = some (.next (full sc A y T R C L d u l (.val (leadV r)) (.val (leadV c)) sh (.val (.int size)) (.val (.int (ilv r size : Nat))) (.val (.int (ilv c size : Nat))) m)) := by
  have e1 : opf neV (methI 131 (Str.ofString "indent_level") (callV 2 6 x_indent_level.val) (getv 11) (consf (getv 14) fun x => some [])) (getv 15) (full sc A y T R C L d u l (.val (leadV r)) (.val (leadV c)) sh (.val (.int size)) (.val (.int (ilv r size : Nat))) (.val (.int (ilv c size : Nat))) m) = some false := by
    have e := v_il (lead r ++ [122, 32, 9]) r size h0 (by omega) (by omega)
    rw [opf_of (x := .int (ilv r size : Nat)) (y := .int (ilv r size : Nat)) ((methI_of (o := leadV r) (ds := [.int size]) rfl (is_il _ _) rfl).trans e) rfl]
    unfold neV
    rw [eqV_int, decide_eq_true rfl]; rfl
  have e2 : opf neV (methI 131 (Str.ofString "indent_level") (callV 2 6 x_indent_level.val) (getv 12) (consf (getv 14) fun x => some [])) (getv 16) (full sc A y T R C L d u l (.val (leadV r)) (.val (leadV c)) sh (.val (.int size)) (.val (.int (ilv r size : Nat))) (.val (.int (ilv c size : Nat))) m) = some false := by
    have e := v_il (lead c ++ [122, 32, 9]) c size h0 (by omega) (by omega)
    rw [opf_of (x := .int (ilv c size : Nat)) (y := .int (ilv c size : Nat)) ((methI_of (o := leadV c) (ds := [.int size]) rfl (is_il _ _) rfl).trans e) rfl]
    unfold neV
    rw [eqV_int, decide_eq_true rfl]; rfl
  unfold s_law_17
  dsimp only
  rw [e1]
  dsimp only
  rw [e2]
theorem k18 (b : Bool) (p q : Nat) : s_law_18.1 (full sc A y T R C L d u l f s (.val (.bool b)) sz (.val (.int p)) (.val (.int q)) m) = some (.next (full sc A y T R C L d u l f s (.val (.bool (b && decide (p < q)))) sz (.val (.int p)) (.val (.int q)) m)) := by
  have e : opf ltV (getv 15) (getv 16) (full sc A y T R C L d u l f s (.val (.bool b)) sz (.val (.int p)) (.val (.int q)) m) = some (decide (p < q)) := by
    show some (decide ((p : Int) < (q : Int))) = _
    congr 1
    rw [decide_eq_decide]; omega
  have e0 : getv 13 (full sc A y T R C L d u l f s (.val (.bool b)) sz (.val (.int p)) (.val (.int q)) m) = some (.bool b) := rfl
  unfold s_law_18
  dsimp only
  rw [e0]
  cases b with
  | true => dsimp only; rw [e, Bool.true_and]; rfl
  | false => rw [Bool.false_and]; rfl
theorem k20 (acts turned : List Act) (hn : acts.length ≤ 13) (hn' : turned.length ≤ 13) : s_law_20.1 (full sc (.val (aL acts)) y (.val (aL turned)) R C L d u l f s sh sz h th m) = some (.next (full sc (.val (aL acts)) y (.val (aL turned)) R C L d u l f s sh sz h th (.val (.bool (decide (acts.map (·.1) = turned.map (·.1))))))) := by
  have g : ∀ (i : Nat) (a : List Act) (σ : St), a.length ≤ 13 → getv i σ = some (aL a) → (fun σ => Option.map PV.list (((getv i σ).bind asList).bind fun ds => if ds.length ≤ lim then (enterf [none] σ).bind fun σ' => compV (fun σ d => some (List.set σ 0 (Slot.val d))) (fun x => some true) (idxf (fun σ => (getv 0 σ).bind asTup) fun x => some (PV.int 0)) σ' ds else none)) σ = some (.list ((a.map fun x => bi x.1).map PV.int)) := by
    intro i a σ ha hg
    dsimp only
    rw [hg]
    show Option.map PV.list (if (a.map encA).length ≤ lim then _ else _) = _
    rw [if_pos (by rw [List.length_map]; exact lim_ge (by omega)), enter_none, Option.bind_some, first_of]; rfl
  have hb : ∀ (a b : List Act), decide (a.map (fun x => bi x.1) = b.map fun x => bi x.1) = decide (a.map (·.1) = b.map (·.1)) := by
    intro a b
    rw [decide_eq_decide]
    have q : ∀ a : List Act, a.map (fun x => bi x.1) = (a.map (·.1)).map bi := fun a => by rw [List.map_map]; rfl
    rw [q a, q b]
    constructor
    · intro h
      exact (List.map_inj_right (fun x y e => by cases x <;> cases y <;> first | rfl | (exact absurd e (by decide)))).mp h
    · intro h; rw [h]
  unfold s_law_20
  dsimp only
  rw [opf_of (g 2 acts _ hn rfl) (g 4 turned _ hn' rfl), eqV_ints, hb]; rfl
theorem k21 (r c : List Nat) (hr : top r ≤ 500) (hc : top c ≤ 500) (hx : lessB r c = true ∨ lessB r c = false) : s_law_21.1 (full sc A y T R C L d u l (.val (leadV r)) (.val (leadV c)) (.val (.bool (lessB r c))) sz h th (.val (.bool (decide (hist r = hist c))))) = some (.ret (.bool true)) := by
  have e1 : opf eqV (methI 131 (Str.ofString "equal") (callV 2 2 x_equal.val) (getv 11) (consf (getv 12) fun x => some [])) (getv 17) (full sc A y T R C L d u l (.val (leadV r)) (.val (leadV c)) (.val (.bool (lessB r c))) sz h th (.val (.bool (decide (hist r = hist c))))) = some true := by
    rw [opf_of (x := .bool (decide (hist r = hist c))) (y := .bool (decide (hist r = hist c))) ((methI_of (o := leadV r) (ds := [leadV c]) rfl (is_equal _ _) rfl).trans (v_equal _ _ _ _)) rfl, eqV_bool, beq_self_eq_true]
  have e2 : opf eqV (methI 131 (Str.ofString "less") (callV 2 4 x_less.val) (getv 11) (consf (getv 12) fun x => some [])) (getv 13) (full sc A y T R C L d u l (.val (leadV r)) (.val (leadV c)) (.val (.bool (lessB r c))) sz h th (.val (.bool (decide (hist r = hist c))))) = some true := by
    rw [opf_of (x := .bool (lessB r c)) (y := .bool (lessB r c)) ((methI_of (o := leadV r) (ds := [leadV c]) rfl (is_less _ _) rfl).trans (v_less _ _ _ _ hr hc)) rfl, eqV_bool, beq_self_eq_true]
  unfold s_law_21
  dsimp only
  rw [e1]
  dsimp only [Option.map_some]
  rw [e2]; rfl
end
end
end L01
end Mine
end
section
open PySem PySem.W PySem.Calls PyProof.Rows
set_option Elab.async false
set_option maxRecDepth 100000
namespace Mine
namespace L01
noncomputable section
theorem forV_cons {bind : St → PV → Option St} {fb : St → Option Out} {σ σ1 σ2 : St} {d : PV} {ds : List PV} (h1 : bind σ d = some σ1) (h2 : fb σ1 = some (.next σ2)) : forV bind fb σ (d :: ds) = forV bind fb σ2 ds := by
  rw [forV, h1]; dsimp only; rw [h2]
noncomputable def E : Slot := .empty
theorem k0 (sc : PV) (t : List Slot) : s_law_0.1 (.val sc :: .empty :: t) = some (.next (.val sc :: .val endsV :: t)) := by
  have c1 : (Str.ofString "\n").cps.toList = [10] := by decide +kernel
  have c2 : (Str.ofString "\r").cps.toList = [13] := by decide +kernel
  have c3 : (Str.ofString "\r\n").cps.toList = [13, 10] := by decide +kernel
  have l3 : ∀ a b c : PV, [a, b, c].length ≤ lim := fun a b c => lim_ge (by simp)
  unfold s_law_0
  dsimp only
  rw [c1, c2, c3, consf_of (xs := [.str [13], .str [13, 10]]) rfl rfl, Option.bind_some, if_pos (l3 _ _ _)]; rfl
theorem k1 (sc : PV) (t : List Slot) : s_law_1.1 (.val sc :: .val endsV :: .empty :: .empty :: t) = some (.next (st1 sc base .empty t)) := by
  have c1 : (Str.ofString "\n").cps.toList = [10] := by decide +kernel
  have c2 : (Str.ofString "\r").cps.toList = [13] := by decide +kernel
  have c3 : (Str.ofString "").cps.toList = [] := by decide +kernel
  have l3 : ∀ a b c : PV, [a, b, c].length ≤ lim := fun a b c => lim_ge (by simp)
  unfold s_law_1
  dsimp only
  rw [c1, c2, c3]
  have e : ∀ (a b : Int) (z : List Nat), (fun σ => (consf (fun x => some (PV.int a)) (consf (fun x => some (PV.int b)) (consf (fun x => some (PV.str z)) fun x => some [])) σ).bind fun ds => if ds.length ≤ lim then some (PV.tup ds) else none) (.val sc :: .val endsV :: .empty :: .empty :: t) = some (.tup [.int a, .int b, .str z]) := by
    intro a b z
    dsimp only
    rw [consf_of (xs := [.int b, .str z]) rfl rfl, Option.bind_some, if_pos (l3 _ _ _)]
  rw [consf_of (e 0 0 [10]) (consf_of (e 0 1 [13]) (consf_of (e 1 0 []) rfl)), Option.bind_some, if_pos (l3 _ _ _)]; rfl
theorem acts_len (ns : List Int) : (actsOf ns).length ≤ 13 := by
  unfold actsOf
  rw [List.length_append, List.length_map, List.length_take]
  simp [base]; omega
theorem acts_valid (ns : List Int) : ∀ x ∈ actsOf ns, valid x := by
  intro x hx
  rcases List.mem_append.mp hx with h | h
  · exact base_valid x h
  · obtain ⟨y, _, rfl⟩ := List.mem_map.mp h
    exact actOf_valid y
theorem turn_valid (acts : List Act) : ∀ x ∈ acts.reverse.map turn1, valid x := by
  intro x hx
  obtain ⟨y, _, rfl⟩ := List.mem_map.mp hx
  exact fun _ => .inr (.inr rfl)
theorem Zw_sum_le (w : List Bool) : (Zw w).sum ≤ w.length * w.length := by
  have h := sum_le (n := w.length) (Zw w) fun d hd => by have := Zw_le w d hd; have := len_oz w; omega
  rw [Zw_len] at h
  have := Nat.mul_le_mul_right w.length (show zeros w ≤ w.length by have := len_oz w; omega)
  omega
theorem k11 (sc y R C d u l f s sh sz h th m : Slot) (acts turned : List Act) (r c : List Nat) (hr : go [] acts = r) (hc : go [] turned = c) (hn : acts.length ≤ 13) (hn' : turned.length ≤ 13) (hv : ∀ x ∈ acts, valid x) (hv' : ∀ x ∈ turned, valid x) (h1 : r.sum ≤ 1000) (h2 : c.sum ≤ 1000) :
    ∃ d u l, s_law_11.1 (full sc (.val (aL acts)) y (.val (aL turned)) (.val (encN r)) (.val (encN c)) (.own []) E E E f s sh sz h th m) = some (.next (full sc (.val (aL acts)) y (.val (aL turned)) (.val (encN r)) (.val (encN c)) (.own [leadV r, leadV c]) d u l f s sh sz h th m)) := by
  have l2 : ∀ a b : PV, [a, b].length ≤ lim := fun a b => lim_ge (by simp)
  have hrl : r.length ≤ 13 := by rw [← hr]; have := go_len acts []; simp at this; omega
  have hcl : c.length ≤ 13 := by rw [← hc]; have := go_len turned []; simp at this; omega
  have e1 : ((consf (fun σ => (consf (getv 2) (consf (getv 5) fun x => some []) σ).bind fun ds => if ds.length ≤ lim then some (PV.tup ds) else none) (consf (fun σ => (consf (getv 4) (consf (getv 6) fun x => some []) σ).bind fun ds => if ds.length ≤ lim then some (PV.tup ds) else none) fun x => some [])
      (full sc (.val (aL acts)) y (.val (aL turned)) (.val (encN r)) (.val (encN c)) (.own []) E E E f s sh sz h th m)).bind fun ds => if ds.length ≤ lim then some ds else none) = some [.tup [aL acts, encN r], .tup [aL turned, encN c]] := by
    have a1 : (fun σ => (consf (getv 2) (consf (getv 5) fun x => some []) σ).bind fun ds => if ds.length ≤ lim then some (PV.tup ds) else none) (full sc (.val (aL acts)) y (.val (aL turned)) (.val (encN r)) (.val (encN c)) (.own []) E E E f s sh sz h th m) = some (.tup [aL acts, encN r]) := by
      dsimp only
      rw [consf_of (x := aL acts) (xs := [encN r]) rfl rfl, Option.bind_some, if_pos (l2 _ _)]
    have a2 : (fun σ => (consf (getv 4) (consf (getv 6) fun x => some []) σ).bind fun ds => if ds.length ≤ lim then some (PV.tup ds) else none) (full sc (.val (aL acts)) y (.val (aL turned)) (.val (encN r)) (.val (encN c)) (.own []) E E E f s sh sz h th m) = some (.tup [aL turned, encN c]) := by
      dsimp only
      rw [consf_of (x := aL turned) (xs := [encN c]) rfl rfl, Option.bind_some, if_pos (l2 _ _)]
    rw [consf_of a1 (consf_of a2 rfl), Option.bind_some, if_pos (l2 _ _)]
  unfold s_law_11
  dsimp only
  rw [e1, Option.bind_some]
  have body : ∀ (a : List Act) (q : List Nat) (xs : List PV) (l : Slot), go [] a = q → a.length ≤ 13 → (∀ x ∈ a, valid x) → q.length ≤ 13 → q.sum ≤ 1000 → xs.length ≤ 10 → (seqf s_law_8.val (seqf s_law_9.val (seqf s_law_10.val fun σ => some (Out.next σ)))) (full sc (.val (aL acts)) y (.val (aL turned)) (.val (encN r)) (.val (encN c)) (.own xs) (.val (aL a)) (.val (encN q)) l f s sh sz h th m) =
      some (.next (full sc (.val (aL acts)) y (.val (aL turned)) (.val (encN r)) (.val (encN c)) (.own (xs ++ [leadV q])) (.val (aL a)) (.val (encN q)) (.val (.str (lead q))) f s sh sz h th m)) := by
    rintro a q xs l rfl ha hva hq hs hx
    rw [seqf_next (k8 _ _ _ _ _ _ _ _ _ _ _ _ _ _ _ _ a ha hva), seqf_next (k9 _ _ _ _ _ _ _ _ _ _ _ _ _ _ _ _ hq hs), seqf_next (k10 _ _ _ _ _ _ _ _ _ _ _ _ _ _ _ _ xs hq hs hx)]
  exact ⟨_, _, _, (forV_cons rfl (body acts r [] E hr hn hv hrl h1 (by simp))).trans ((forV_cons rfl (body turned c ([] ++ [leadV r]) _ hc hn' hv' hcl h2 (by simp))).trans rfl)⟩
theorem k19 (sc y C' d u l h th m : Slot) (acts turned : List Act) (r c S : List Nat) (hn : acts.length ≤ 13) (hrl : r.length ≤ 13) (hcl : c.length ≤ 13) (hp : r.Perm S) (hs : S.Pairwise (· ≥ ·)) (hc : c.Pairwise (· ≥ ·))
    (hr : top r ≤ 500) (ht : top c ≤ 500) (e1 : ∀ s, 0 < s → ilv r s = s * (r.length + (met s c).sum)) (e2 : ∀ s, 0 < s → ilv c s = s * (c.length + (met s S).sum)) :
    ∃ sz h th, s_law_19.1 (full sc (.val (aL acts)) y (.val (aL turned)) (.val (encN r)) (.val (encN c)) C' d u l (.val (leadV r)) (.val (leadV c)) (.val (.bool true)) E E E m) =
      some (.next (full sc (.val (aL acts)) y (.val (aL turned)) (.val (encN r)) (.val (encN c)) C' d u l (.val (leadV r)) (.val (leadV c)) (.val (.bool ((List.range acts.length).all fun i => decide (ilv r (i + 1) < ilv c (i + 1))))) sz h th m)) := by
  have er : ((consf (fun x => some (PV.int 1)) (consf (opf addV (fun σ => ((getv 2 σ).bind asList).bind fun xs => if xs.length ≤ lim then some (PV.int ↑xs.length) else none) fun x => some (PV.int 1)) fun x => some []) (full sc (.val (aL acts)) y (.val (aL turned)) (.val (encN r)) (.val (encN c)) C' d u l (.val (leadV r)) (.val (leadV c)) (.val (.bool true)) E E E m)).bind rangeV) = some ((List.range acts.length).map fun (i : Nat) => PV.int (i + 1 : Nat)) := by
    have a1 : (fun σ => ((getv 2 σ).bind asList).bind fun xs => if xs.length ≤ lim then some (PV.int ↑xs.length) else none) (full sc (.val (aL acts)) y (.val (aL turned)) (.val (encN r)) (.val (encN c)) C' d u l (.val (leadV r)) (.val (leadV c)) (.val (.bool true)) E E E m) = some (.int acts.length) := by
      show (if (acts.map encA).length ≤ lim then some (PV.int ↑(acts.map encA).length) else none) = _
      rw [List.length_map, if_pos (lim_ge (by omega))]
    rw [consf_of (x := .int 1) rfl (consf_of (x := .int (acts.length + 1)) ((opf_of a1 rfl).trans rfl) rfl)]
    show (if (small (1 : Int) && small ((acts.length : Int) + 1)) = true then some (rangeL 1 (acts.length + 1)) else none) = _
    rw [small_of (a := 1) (by omega) (by omega), small_of (a := (acts.length : Int) + 1) (by omega) (by omega), Bool.and_self, if_pos rfl]
    unfold rangeL
    have : ((acts.length : Int) + 1 - 1).toNat = acts.length := by omega
    rw [this]
    congr 1
    exact List.map_congr_left fun i _ => by congr 1; omega
  obtain ⟨σ', e, sz, h', th', rfl⟩ := forV_pre (bind := fun σ d => some (List.set σ 14 (Slot.val d))) (fb := seqf s_law_15.val (seqf s_law_16.val (seqf s_law_17.val (seqf s_law_18.val fun σ => some (Out.next σ))))) (fun (i : Nat) => PV.int (i + 1 : Nat))
    (fun pre σ => ∃ sz h th, σ = full sc (.val (aL acts)) y (.val (aL turned)) (.val (encN r)) (.val (encN c)) C' d u l (.val (leadV r)) (.val (leadV c)) (.val (.bool (pre.all fun i => decide (ilv r (i + 1) < ilv c (i + 1))))) sz h th m) (List.range acts.length) []
    (full sc (.val (aL acts)) y (.val (aL turned)) (.val (encN r)) (.val (encN c)) C' d u l (.val (leadV r)) (.val (leadV c)) (.val (.bool true)) E E E m) ⟨_, _, _, rfl⟩ (by
      rintro pre x suf σ he ⟨sz, h, th, rfl⟩
      rw [List.nil_append] at he
      have hx : x < acts.length := List.mem_range.mp (by rw [he]; simp)
      have q15 := k15 sc (.val (aL acts)) y (.val (aL turned)) C' d u l (.val (leadV r)) (.val (leadV c)) (.val (.bool (pre.all fun i => decide (ilv r (i + 1) < ilv c (i + 1))))) h th m r c c (x + 1) hrl (List.Perm.refl _) hc hcl (by omega) (by omega)
      rw [← e1 (x + 1) (by omega)] at q15
      have q16 := k16 sc (.val (aL acts)) y (.val (aL turned)) C' d u l (.val (leadV r)) (.val (leadV c)) (.val (.bool (pre.all fun i => decide (ilv r (i + 1) < ilv c (i + 1))))) (.val (.int (ilv r (x + 1) : Nat))) th m r c S (x + 1) hcl hp hs hrl (by omega) (by omega)
      rw [← e2 (x + 1) (by omega)] at q16
      have q17 := k17 sc (.val (aL acts)) y (.val (aL turned)) (.val (encN r)) (.val (encN c)) C' d u l (.val (.bool (pre.all fun i => decide (ilv r (i + 1) < ilv c (i + 1))))) m r c (x + 1) hr ht (by omega) (by omega)
      have q18 := k18 sc (.val (aL acts)) y (.val (aL turned)) (.val (encN r)) (.val (encN c)) C' d u l (.val (leadV r)) (.val (leadV c)) (.val (.int (x + 1 : Nat))) m (pre.all fun i => decide (ilv r (i + 1) < ilv c (i + 1))) (ilv r (x + 1)) (ilv c (x + 1))
      refine ⟨_, _, rfl, ?_, .val (.int (x + 1 : Nat)), .val (.int (ilv r (x + 1) : Nat)), .val (.int (ilv c (x + 1) : Nat)), rfl⟩
      rw [List.all_append, List.all_cons, List.all_nil, Bool.and_true]
      exact (seqf_next q15).trans ((seqf_next q16).trans ((seqf_next q17).trans (seqf_next q18))))
  refine ⟨sz, h', th', ?_⟩
  unfold s_law_19
  dsimp only
  rw [er]
  exact e
theorem dlaw (ns : List Int) (hns : ns.length ≤ 63) : callV 1 18 x_law.1 [.list (ns.map .int)] = some (.bool true) := by
  have ha := acts_len ns
  have hva := acts_valid ns
  have hw' : ∃ w', (actsOf ns).map (·.1) = false :: false :: true :: w' := ⟨_, rfl⟩
  obtain ⟨w', hw'⟩ := hw'
  obtain ⟨y, q3⟩ := acts_loop ns (by omega) .empty [E, E, E, E, E, E, E, E, E, E, E, E, E, E]
  generalize actsOf ns = acts at ha hva hw' q3
  generalize hw : acts.map (·.1) = w at hw'
  have ht : (acts.reverse.map turn1).length ≤ 13 := by rw [List.length_map, List.length_reverse]; exact ha
  have hwl : w.length ≤ 13 := by rw [← hw, List.length_map]; exact ha
  have hrp := rows_perm acts w hw
  have hrs : (go [] acts).sum ≤ 1000 := by
    rw [hrp.sum_nat]
    have := Zw_sum_le w
    have := Nat.mul_le_mul hwl hwl
    omega
  have hcs : (Zw (dual w)).sum ≤ 1000 := by rw [← rows_sum acts w hw]; exact hrs
  have hcols := cols_eq acts w hw
  have hrl : (go [] acts).length ≤ 13 := by have := go_len acts []; simp at this; omega
  have hcl : (Zw (dual w)).length ≤ 13 := by rw [Zw_len]; have := len_oz (dual w); rw [dual_len] at this; omega
  have htr : top (go [] acts) ≤ 500 := by rw [top_perm hrp]; exact top_le.mpr fun d hd => by have := Zw_le w d hd; have := len_oz w; omega
  have htc : top (Zw (dual w)) ≤ 500 := top_le.mpr fun d hd => by have := Zw_le _ d hd; have := len_oz (dual w); rw [dual_len] at this; omega
  have h20 : decide (acts.map (·.1) = (acts.reverse.map turn1).map (·.1)) = decide (hist (go [] acts) = hist (Zw (dual w))) := by
    rw [kinds_turn, hw, decide_eq_decide]; exact (same_iff acts w hw).symm
  have hless := less_is acts w hw w' hw'
  have f4 := k4 (.val (.list (ns.map .int))) y E E E E E E E E E E E E E E acts ha
  have f5 := k5 (.val (.list (ns.map .int))) y (.val (aL (acts.reverse.map turn1))) E E E E E E E E E E E E E acts ha
  have f6 := k6 (.val (.list (ns.map .int))) (.val (aL acts)) y (.val (encN (go [] acts))) E E E E E E E E E E E E (acts.reverse.map turn1) ht
  rw [hcols] at f6
  have f7 := k7 (.val (.list (ns.map .int))) (.val (aL acts)) y (.val (aL (acts.reverse.map turn1))) (.val (encN (go [] acts))) (.val (encN (Zw (dual w)))) E E E E E E E E E E E
  obtain ⟨d, u, l, f11⟩ := k11 (.val (.list (ns.map .int))) y E E E E E E E E E E E E acts (acts.reverse.map turn1) _ _ rfl hcols ha ht hva (turn_valid acts) hrs hcs
  have f12 := k12 (.val (.list (ns.map .int))) (.val (aL acts)) y (.val (aL (acts.reverse.map turn1))) (.val (encN (go [] acts))) (.val (encN (Zw (dual w)))) d u l E E E E E E E (leadV (go [] acts)) (leadV (Zw (dual w)))
  have f13 := k13 (.val (.list (ns.map .int))) (.val (aL acts)) y (.val (aL (acts.reverse.map turn1))) (.val (encN (go [] acts))) (.val (encN (Zw (dual w)))) (.val (.list [leadV (go [] acts), leadV (Zw (dual w))])) d u l E E E E E _ _ (rows_sum acts w hw)
  have f14 := k14 (.val (.list (ns.map .int))) (.val (aL acts)) y (.val (aL (acts.reverse.map turn1))) (.val (encN (go [] acts))) (.val (encN (Zw (dual w)))) (.val (.list [leadV (go [] acts), leadV (Zw (dual w))])) d u l (.val (leadV (go [] acts))) (.val (leadV (Zw (dual w)))) E E E E E
  obtain ⟨sz, h, th, f19⟩ := k19 (.val (.list (ns.map .int))) y (.val (.list [leadV (go [] acts), leadV (Zw (dual w))])) d u l E E E acts (acts.reverse.map turn1) _ _ _ ha hrl hcl hrp (Zw_sorted w) (Zw_sorted (dual w)) htr htc (rows_il acts w hw) (cols_il w)
  rw [← hless] at f19
  have f20 := k20 (.val (.list (ns.map .int))) y (.val (encN (go [] acts))) (.val (encN (Zw (dual w)))) (.val (.list [leadV (go [] acts), leadV (Zw (dual w))])) d u l (.val (leadV (go [] acts))) (.val (leadV (Zw (dual w)))) (.val (.bool (lessB (go [] acts) (Zw (dual w))))) sz h th E acts (acts.reverse.map turn1) ha ht
  rw [h20] at f20
  have f21 := k21 (.val (.list (ns.map .int))) (.val (aL acts)) y (.val (aL (acts.reverse.map turn1))) (.val (encN (go [] acts))) (.val (encN (Zw (dual w)))) (.val (.list [leadV (go [] acts), leadV (Zw (dual w))])) d u l sz h th _ _ htr htc (by cases lessB (go [] acts) (Zw (dual w)) <;> simp)
  have e : x_law.1 [.val (.list (ns.map .int)), E, E, E, E, E, E, E, E, E, E, E, E, E, E, E, E, E] = some (.ret (.bool true)) := by
    unfold x_law
    dsimp only
    refine (seqf_next (k0 _ _)).trans ((seqf_next (k1 _ _)).trans ((seqf_next q3).trans ?_))
    refine (seqf_next f4).trans ?_
    refine (seqf_next f5).trans ((seqf_next f6).trans ((seqf_next f7).trans ((seqf_next f11).trans ?_)))
    refine (seqf_next f12).trans ((seqf_next f13).trans ((seqf_next f14).trans ((seqf_next f19).trans ((seqf_next f20).trans (seqf_ret f21)))))
  unfold callV
  show (x_law.1 [.val (.list (ns.map .int)), E, E, E, E, E, E, E, E, E, E, E, E, E, E, E, E, E]).bind outRet = _
  rw [e]; rfl
end
end L01
end Mine
end
section
open PySem PySem.W PySem.Calls PyProof.Rows
set_option Elab.async false
set_option maxRecDepth 100000
set_option maxHeartbeats 4000000
namespace Mine
noncomputable section
theorem home_of {K : Frag} {p : Program} {loose : List Str} {mean : ExcName → Option Value} {mg mb : Str → Option Value} {h : Heap} (X : K.In h) (T : Top p loose mean mg mb h) : Home K h.get? mg mb where
  kh := fun a o e => X a o e
  gl := ⟨T.g, T.b⟩
  lim := fun h' S => T.nolimit.keeps fun b o e => S b o e
  mgs := fun x r e => by
    cases r with
    | none => exact mg_none_of X T.g e
    | some v => exact mg_of X T.g e
  mbs := T.builtins
theorem room_top : Room 4 callerA := ⟨rfl, by decide +kernel, by decide +kernel⟩
theorem law_end {prog : Program} {w : World} {K : Frag} {p : Program} {loose : List Str} {mean : ExcName → Option Value} {mg mb : Str → Option Value} {c : ClaimW} {cl : Str → Option Addr} {mean' : ExcName → Option Value} {args : List WData} {s₁ : Shared} {fa fl : Addr} {F : List PV → Option PV} {a : Addr} {vs : List Value} {ns : List Int}
    (X : K.In s₁.heap) (T : Top p loose mean mg mb s₁.heap) (hc : ∀ H mg mb, Home K H mg mb → COk prog w H 4 (.ref fl) F) (hl : nsIn K mainGlobals "law" = some (some (.ref fl))) (hmg : mg "law" = some (.ref fa)) (hF : F [.list (ns.map .int)] = some (.bool true))
    (hL : s₁.heap.IsList a vs.toArray) (hW : Well w.params s₁.heap (.ref a) (ofPy (.list (ns.map .int)))) (hI : IntsAre vs ns) (hg : s₁.gens = #[]) (hn : ∀ cls, c.raises args cls = false) (hp : c.post args (.bool true) args = true) :
    wpAny (model prog w) callerA (call (.ref fa) [.ref a]) (fun v s' => GoodWG c cl mean' args s₁ (.ok (.ret v)) s') (fun e s' => GoodWG c cl mean' args s₁ (.error e) s') s₁ := by
  have hm := home_of X T
  have e := hm.mgs _ _ hl
  rw [hmg] at e
  cases e
  obtain ⟨ob, ho, hcl, n, hd⟩ := hL
  have hob : ∃ n, s₁.heap.get? a = some (listObj vs n) := by
    have hW' : Well w.params s₁.heap (.ref a) (.list (ofPys (ns.map .int))) := by
      have e : ofPy (.list (ns.map .int)) = .list (ofPys (ns.map .int)) := by first | rfl | (rw [ofPy])
      rw [← e]; exact hW
    cases hW' with
    | @list _ vs' _ h1 _ =>
      have h2 := h1
      rw [ho] at h2
      cases h2
      have : vs' = vs := by cases hd; rfl
      subst this
      exact ⟨0, h1⟩
  obtain ⟨n', ho'⟩ := hob
  refine wpAny_mono ((hc _ _ _ hm).out callerA s₁ s₁.heap.get? [.ref a] [.list (ns.map .int)] (.bool true) (fun v s' => GoodWG c cl mean' args s₁ (.ok (.ret v)) s') room_top (Sub.refl _) (Sub.refl _) (Rds.cons (rd_list.mpr ⟨a, vs, n', rfl, ho', ints_of hI⟩) Rds.nil) hF ?_) (fun _ _ x => x) (fun _ _ x => x.elim)
  intro v h' tk g' S r
  rw [rd_bool] at r
  subst r
  exact GoodW.toG ⟨.inl ⟨_, .bool true, [], rfl, hn, .bool true, hp, fun _ => ⟨List.nodup_nil, fun _ h => nomatch h⟩⟩, fun b o e => S.ext b o e, rfl, hg⟩
end
end Mine
end
section
open PySem PySem.W PySem.Calls PyProof.Rows
set_option Elab.async false
set_option maxRecDepth 100000
set_option maxHeartbeats 8000000
namespace Mine
namespace L01
theorem law_at (P : Params) : nsIn (hd01.heap_39 P) mainGlobals "law" = some (some (.ref 157)) := by kernel_rfl
theorem joined (dlaw : ∀ ns : List Int, ns.length ≤ 63 → callV 1 18 x_law.1 [.list (ns.map .int)] = some (.bool true)) : PySem.Challenge.rw_pg0161_01.Holds := hd01 (by
  k_fill
  intro w s₀ s₁ mg mb G Y fa o pm cd doc dV kV ho hd hcd hD hmg hg args vals as hpre hlay hrd hwl hlo
  have KX := kIn_of Y
  refine Ground.open G ?_
  intro T B D TE TW
  clear B D TE TW hd hcd hD ho
  wrow_args hpre hlay hrd hwl hlo
  have hmg1 : mg "law" = some (.ref fa) := hmg
  clear hmg
  rename_i hL _ _ _ hI _ hl _
  refine law_end KX T (fun H mg mb hm => c_law hm (facts w.params)) (law_at w.params) hmg1 (dlaw _ (by omega)) hL (by assumption) hI hg ?_ ?_
  · intro _; rfl
  · wrow_post)
end L01
end Mine
end
set_option maxRecDepth 100000 in
set_option maxHeartbeats 8000000 in
theorem PySem.Challenge.cw_pg0161_01_holds : PySem.Challenge.rw_pg0161_01.Holds :=
  Mine.L01.joined Mine.L01.dlaw
