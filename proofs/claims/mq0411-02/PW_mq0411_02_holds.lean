import PyProof.Rows.All
import Wide.All
import OpenK.AllK
import Lean
import PySem.Challenge.RW_mq0411_02
open PySem PySem.W PySem.Calls PyProof.Rows
set_option Elab.async false
set_option genSizeOf false
set_option genInjectivity false
set_option bootstrap.genMatcherCode false
set_option maxRecDepth 100000
set_option linter.unusedVariables false
namespace Mine
set_option maxHeartbeats 200000
set_option backward.match.sparseCases false
@[irreducible] noncomputable def prog : Program := Challenge.pw_mq0411_02
inductive SV where
 | none
 | bool (b : Bool)
 | int (i : Int)
 | str (s : Str)
 | val (v : Value)
 | obj (i : Nat)
 | dat (d : PyData)
 | sg (c : Nat) (es fs : List (Str × Bool))
inductive SO where
 | inst (C : Addr) (fs : List (Str × SV))
 | raw (o : Obj)
 | list (xs : List SV)
 | tup (xs : List SV)
 | cell (v : Option SV)
 | dic (fs : List (Str × SV))
 | it (b : Bool) (src : SV) (j : Nat)
 | itr (n j : Nat)
 | rng (n : Nat)
 | gone
 | tab (p : Addr)
structure St where
 loc : List (Str × SV)
 led : List SO
noncomputable abbrev zJS (o : Option SO) (f : Addr → List (Str × SV) → Prop) : Prop := match o with
 | none => False
 | some x => match x with
  | .inst c fs => f c fs
  | _ => False
noncomputable abbrev zLr (o : Option SO) (f : List SV → Prop) : Prop := match o with
 | none => False
 | some x => match x with
  | .list xs => f xs
  | _ => False
noncomputable abbrev zSL (o : Option SO) (f : List SV → Prop) : Prop := match o with
 | none => False
 | some x => match x with
  | .tup xs => f xs
  | _ => False
noncomputable abbrev zQt (o : Option SO) (f : Option SV → Prop) : Prop := match o with
 | none => False
 | some x => match x with
  | .cell v => f v
  | _ => False
noncomputable abbrev zSN (o : Option SO) (f : Obj → Prop) : Prop := match o with
 | none => False
 | some x => match x with
  | .raw v => f v
  | _ => False
noncomputable abbrev zBM {α : Type} (o : Option α) (f : α → Prop) : Prop := match o with
 | none => False
 | some x => f x
noncomputable abbrev onTr (b : Bool) (p : Prop) : Prop := match b with
 | true => p
 | false => False
theorem zCc {o : Option SO} {f : Addr → List (Str × SV) → Prop} (h : zJS o f) : ∃ c fs, o = some (.inst c fs) ∧ f c fs := by
 cases o with
 | none => exact h.elim
 | some x => cases x <;> first | exact ⟨_, _, rfl, h⟩ | exact h.elim
theorem zCO {o : Option SO} {f : List SV → Prop} (h : zLr o f) : ∃ c, o = some (.list c) ∧ f c := by
 cases o with
 | none => exact h.elim
 | some x => cases x <;> first | exact ⟨_, rfl, h⟩ | exact h.elim
theorem zKO {o : Option SO} {f : List SV → Prop} (h : zSL o f) : ∃ c, o = some (.tup c) ∧ f c := by
 cases o with
 | none => exact h.elim
 | some x => cases x <;> first | exact ⟨_, rfl, h⟩ | exact h.elim
theorem zDM {o : Option SO} {f : Option SV → Prop} (h : zQt o f) : ∃ c, o = some (.cell c) ∧ f c := by
 cases o with
 | none => exact h.elim
 | some x => cases x <;> first | exact ⟨_, rfl, h⟩ | exact h.elim
theorem zKQ {o : Option SO} {f : Obj → Prop} (h : zSN o f) : ∃ c, o = some (.raw c) ∧ f c := by
 cases o with
 | none => exact h.elim
 | some x => cases x <;> first | exact ⟨_, rfl, h⟩ | exact h.elim
theorem zAK {α : Type} {o : Option α} {f : α → Prop} (h : zBM o f) : ∃ c, o = some c ∧ f c := by
 cases o with
 | none => exact h.elim
 | some x => exact ⟨_, rfl, h⟩
theorem zAp {b : Bool} {p : Prop} (h : onTr b p) : b = true ∧ p := by
 cases b with
 | false => exact h.elim
 | true => exact ⟨rfl, h⟩
inductive SR where
 | v (x : SV)
 | b (x : Bool)
 | vs (l : List SV)
 | next
 | brk
 | cont
 | ret (x : SV)
noncomputable abbrev Kt := SR → St → Prop
noncomputable def lk {α : Type} (x : Str) : List (Str × α) → Option α
 | [] => none
 | (y, a) :: r => match Fast.sEq x y with
  | true => some a
  | false => lk x r
noncomputable def put {α : Type} (x : Str) (v : α) : List (Str × α) → List (Str × α)
 | [] => [(x, v)]
 | (y, a) :: r => match Fast.sEq x y with
  | true => (y, v) :: r
  | false => (y, a) :: put x v r
noncomputable def toSV : Value → SV
 | .none => .none
 | .bool b => .bool b
 | .int i _ => .int i
 | .str s _ => .str s
 | v => .val v
noncomputable def svOf : PyData → SV
 | .none => .none
 | .bool b => .bool b
 | .int i => .int i
 | .str s => .str s
 | d => .dat d
theorem zAO {a b : Str} (h : Fast.sEq a b = true) : a = b := Fast.sEq_iff.mp h
theorem zAZ {a b : Str} (h : Fast.sEq a b = false) : a ≠ b := fun e => by rw [Fast.sEq_iff.mpr e] at h; cases h
theorem zNq (a : Str) : Fast.sEq a a = true := Fast.sEq_iff.mpr rfl
structure Wd where
 ads : List (Addr × Addr)
 fz : List (Addr × Obj)
noncomputable def wa (a b : Wd) : Wd := ⟨a.ads ++ b.ads, a.fz ++ b.fz⟩
noncomputable def Wd.nil : Wd := ⟨[], []⟩
theorem Wd.append_nil (a : Wd) : (wa a Wd.nil) = a := by
 cases a; show Wd.mk _ _ = _; simp [Wd.nil]
theorem Wd.append_assoc (a b c : Wd) : (wa (wa a b) c) = (wa a (wa b c)) := by
 show Wd.mk (a.ads ++ b.ads ++ c.ads) (a.fz ++ b.fz ++ c.fz) = Wd.mk (a.ads ++ (b.ads ++ c.ads)) (a.fz ++ (b.fz ++ c.fz)); rw [List.append_assoc, List.append_assoc]
noncomputable def Wd.one (a d : Addr) : Wd := ⟨[(a, d)], []⟩
theorem Wd.ads_append (a b : Wd) : (wa a b).ads = a.ads ++ b.ads := rfl
theorem Wd.fz_append (a b : Wd) : (wa a b).fz = a.fz ++ b.fz := rfl
inductive Fits : PyData → Prop
 | none : Fits .none
 | bool (b) : Fits (.bool b)
 | int (i) : Fits (.int i)
 | str {s : Str} : s.length ≤ sizeLine → Fits (.str s)
 | list {xs : List PyData} : xs.length ≤ sizeLine → (∀ x ∈ xs, Fits x) → Fits (.list xs)
 | tuple {xs : List PyData} : xs.length ≤ sizeLine → (∀ x ∈ xs, Fits x) → Fits (.tuple xs)
 | dict {kvs : List (PyData × PyData)} : kvs.length ≤ sizeLine → (∀ x ∈ kvs, Fits x.1) → (∀ x ∈ kvs, Fits x.2) → Fits (.dict kvs)
noncomputable def Got (B : Heap) (fz : List (Addr × Obj)) (a : Addr) (o : Obj) : Prop := B.get? a = some o ∨ (a, o) ∈ fz
mutual
/-- a value reads as data, from objects that never change again -/
inductive Rd (B : Heap) (fz : List (Addr × Obj)) : Value → PyData → Prop
 | none : Rd B fz .none .none
 | bool (b) : Rd B fz (.bool b) (.bool b)
 | int (i t) : Rd B fz (.int i t) (.int i)
 | str (x t) : Rd B fz (.str x t) (.str x)
 | list {a : Addr} {o : Obj} {vs : Array Value} {n : Nat} {xs : List PyData} : Got B fz a o → o.cls = .type "list" → o.data = .seq vs n → RdL B fz vs.toList xs → Rd B fz (.ref a) (.list xs)
 | tuple {a : Addr} {o : Obj} {vs : Array Value} {n : Nat} {xs : List PyData} : Got B fz a o → o.cls = .type "tuple" → o.data = .seq vs n → RdL B fz vs.toList xs → Rd B fz (.ref a) (.tuple xs)
inductive RdL (B : Heap) (fz : List (Addr × Obj)) : List Value → List PyData → Prop
 | nil : RdL B fz [] []
 | cons {v : Value} {d : PyData} {vs : List Value} {ds : List PyData} : Rd B fz v d → RdL B fz vs ds → RdL B fz (v :: vs) (d :: ds)
end
theorem Got.mono {B : Heap} {fz gz : List (Addr × Obj)} (s : ∀ p ∈ fz, p ∈ gz) {a : Addr} {o : Obj} (g : Got B fz a o) : Got B gz a o := g.imp id (s _)
mutual
theorem Rd.mono {B : Heap} {fz gz : List (Addr × Obj)} (s : ∀ p ∈ fz, p ∈ gz) : ∀ {v : Value} {d : PyData}, Rd B fz v d → Rd B gz v d
 | _, _, .none => .none
 | _, _, .bool b => .bool b
 | _, _, .int i t => .int i t
 | _, _, .str x t => .str x t
 | _, _, .list g c e r => .list (g.mono s) c e (r.mono s)
 | _, _, .tuple g c e r => .tuple (g.mono s) c e (r.mono s)
theorem RdL.mono {B : Heap} {fz gz : List (Addr × Obj)} (s : ∀ p ∈ fz, p ∈ gz) : ∀ {vs : List Value} {ds : List PyData}, RdL B fz vs ds → RdL B gz vs ds
 | _, _, .nil => .nil
 | _, _, .cons a b => .cons (a.mono s) (b.mono s)
end
noncomputable def Look (B : Heap) (fz : List (Addr × Obj)) (h : Heap) : Prop := B.StaysIn h ∧ ∀ p ∈ fz, h.get? p.1 = some p.2
noncomputable def sgS (c : Nat) : Str := ⟨#[c]⟩
theorem zBU (c : Nat) : (sgS c).length = 1 := rfl
noncomputable def inB (a b : Str) : Bool := !(Builtin.Str.occurrences b a 0 b.length 1).isEmpty
noncomputable def Den (B : Heap) (ads : Wd) : SV → Value → Prop
 | .none, v => v = .none
 | .bool b, v => v = .bool b
 | .int i, v => ∃ t, v = .int i t
 | .str s, v => (∃ t, v = .str s t) ∧ s.length ≤ sizeLine
 | .val x, v => v = x ∧ handedIn x = true
 | .obj i, v => ∃ p, ads.ads[i]? = some p ∧ v = .ref p.1
 | .dat d, v => (∃ a, v = .ref a) ∧ Fits d ∧ Rd B ads.fz v d
 | .sg c es fs, v => (∃ t, v = .str (sgS c) t) ∧ (∀ p ∈ es, Fast.sEq (sgS c) p.1 = p.2) ∧ (∀ p ∈ fs, inB (sgS c) p.1 = p.2)
mutual
theorem Rd.reads {B : Heap} {fz : List (Addr × Obj)} {h : Heap} (l : Look B fz h) : ∀ {v : Value} {d : PyData}, Rd B fz v d → ∃ as, Reads h v d as
 | _, _, .none => ⟨_, .none⟩
 | _, _, .bool b => ⟨_, .bool b⟩
 | _, _, .int i t => ⟨_, .int i t⟩
 | _, _, .str x t => ⟨_, .str x t⟩
 | _, _, .list g c e r => let ⟨_, q⟩ := r.reads l; ⟨_, .list (g.elim (l.1 _ _) (l.2 _)) c e q⟩
 | _, _, .tuple g c e r => let ⟨_, q⟩ := r.reads l; ⟨_, .tuple (g.elim (l.1 _ _) (l.2 _)) c e q⟩
theorem RdL.reads {B : Heap} {fz : List (Addr × Obj)} {h : Heap} (l : Look B fz h) : ∀ {vs : List Value} {ds : List PyData}, RdL B fz vs ds → ∃ as, ReadsAll h vs ds as
 | _, _, .nil => ⟨_, .nil⟩
 | _, _, .cons a b => let ⟨_, x⟩ := a.reads l; let ⟨_, y⟩ := b.reads l; ⟨_, .cons x y⟩
end
theorem Den.mono {B : Heap} {ads more : Wd} {x : SV} {v : Value} (h : Den B ads x v) : Den B (wa ads more) x v := by
 cases x with
 | obj i =>
  obtain ⟨p, hp, e⟩ := h
  refine ⟨p, ?_, e⟩
  rw [Wd.ads_append, List.getElem?_append_left (List.getElem?_eq_some_iff.mp hp).1]; exact hp
 | dat d =>
  obtain ⟨e, f, r⟩ := h
  exact ⟨e, f, r.mono fun p hp => List.mem_append_left _ hp⟩
 | _ => exact h
theorem Den.handed {B : Heap} {ads : Wd} {x : SV} {v : Value} (h : Den B ads x v) : handedIn v = true := by
 cases x with
 | none => cases h; rfl
 | bool b => cases h; rfl
 | int i => obtain ⟨t, rfl⟩ := h; rfl
 | str s => obtain ⟨⟨t, rfl⟩, _⟩ := h; rfl
 | val y => obtain ⟨rfl, e⟩ := h; exact e
 | obj i => obtain ⟨p, _, rfl⟩ := h; rfl
 | dat d => obtain ⟨⟨a, rfl⟩, _⟩ := h; rfl
 | sg c es fs => obtain ⟨⟨t, rfl⟩, _⟩ := h; rfl
noncomputable def LocR (B : Heap) (ads : Wd) (loc : List (Str × SV)) (m : Str → Option Value) : Prop := ∀ x sv, lk x loc = some sv → ∃ v, m x = some v ∧ Den B ads sv v
theorem LocR.mono {B : Heap} {ads more : Wd} {loc : List (Str × SV)} {m : Str → Option Value} (h : LocR B ads loc m) : LocR B (wa ads more) loc m := fun x sv e => let ⟨v, a, b⟩ := h x sv e; ⟨v, a, b.mono⟩
theorem zPZ {α : Type} (x y : Str) (v : α) : ∀ l : List (Str × α), lk y (put x v l) = if y = x then some v else lk y l
 | [] => by
  unfold put lk
  cases h : Fast.sEq y x with
  | true => rw [if_pos (zAO h)]
  | false => rw [if_neg (zAZ h)]; rfl
 | (z, a) :: r => by
  unfold put
  cases h : Fast.sEq x z with
  | true =>
   have e := zAO h
   subst e
   show lk y ((x, v) :: r) = _
   unfold lk
   cases q : Fast.sEq y x with
   | true => rw [if_pos (zAO q)]
   | false => rw [if_neg (zAZ q)]
  | false =>
   show lk y ((z, a) :: put x v r) = _
   have ih := zPZ x y v r
   unfold lk
   cases q : Fast.sEq y z with
   | true =>
    have e := zAO q
    subst e
    have : y ≠ x := fun e => zAZ h e.symm
    rw [if_neg this]
   | false => exact ih
theorem LocR.set {B : Heap} {ads : Wd} {loc : List (Str × SV)} {m : Str → Option Value} (h : LocR B ads loc m) {x : Str} {sv : SV} {v : Value} (d : Den B ads sv v) :
  LocR B ads (put x sv loc) (fun y => if y = x then some v else m y) := fun y sw e => by
 rw [zPZ] at e
 by_cases q : y = x
 ·rw [if_pos q] at e; cases e
  exact ⟨v, if_pos q, d⟩
 ·rw [if_neg q] at e
  obtain ⟨v', a, b⟩ := h y sw e
  exact ⟨v', (if_neg q).trans a, b⟩
inductive EntR (P : Params) (B : Heap) (ads : Wd) : List DictEntry → List (Str × SV) → Prop
 | nil : EntR P B ads [] []
 | cons {x : Str} {t : Tok} {v : Value} {sv : SV} {es : List DictEntry} {fs : List (Str × SV)} : Den B ads sv v → EntR P B ads es fs → EntR P B ads (⟨PyData.keyHash P x, .str x t, v⟩ :: es) ((x, sv) :: fs)
theorem EntR.mono {P : Params} {B : Heap} {ads more : Wd} {es : List DictEntry} {fs : List (Str × SV)} (h : EntR P B ads es fs) : EntR P B (wa ads more) es fs := by
 induction h with
 | nil => exact .nil
 | cons d _ ih => exact .cons d.mono ih
theorem isStr_iff {x y : Str} {t : Tok} : (Value.str x t).isStr y = true ↔ y = x := by
 show (x == y) = true ↔ _
 rw [beq_iff_eq]
 exact ⟨fun e => e.symm, fun e => e.symm⟩
theorem EntR.get {P : Params} {B : Heap} {ads : Wd} {x : Str} {sv : SV} : ∀ {es : List DictEntry} {fs : List (Str × SV)}, EntR P B ads es fs → lk x fs = some sv → ∃ v, getL x es = some (some v) ∧ Den B ads sv v
 | _, _, .nil, e => by cases e
 | _, _, .cons (x := y) (t := t) (v := v) (es := es) d r, e => by
  unfold lk at e
  cases q : Fast.sEq x y with
  | true =>
   rw [q] at e; cases e
   refine ⟨v, ?_, d⟩
   unfold getL
   rw [List.find?_cons]
   have : (Value.str y t).isStr x = true := isStr_iff.mpr (zAO q)
   simp only [this]
  | false =>
   rw [q] at e
   obtain ⟨v', a, b⟩ := r.get e
   refine ⟨v', ?_, b⟩
   unfold getL at a ⊢
   rw [List.find?_cons]
   have : (Value.str y t).isStr x = false := by
    cases z : (Value.str y t).isStr x with
    | false => rfl
    | true => exact absurd (isStr_iff.mp z) (zAZ q)
   simp only [this]
   have z : DictEntry.refKey ⟨PyData.keyHash P y, .str y t, v⟩ = false := rfl
   rw [List.any_cons, z, Bool.false_or]
   exact a
theorem EntR.miss {P : Params} {B : Heap} {ads : Wd} {x : Str} : ∀ {es : List DictEntry} {fs : List (Str × SV)}, EntR P B ads es fs → lk x fs = none → getL x es = some none
 | _, _, .nil, _ => rfl
 | _, _, .cons (x := y) (t := t) (v := v) (es := es) d r, e => by
  unfold lk at e
  cases q : Fast.sEq x y with
  | true => rw [q] at e; cases e
  | false =>
   rw [q] at e
   have a := r.miss e
   unfold getL at a ⊢
   rw [List.find?_cons]
   have : (Value.str y t).isStr x = false := by
    cases z : (Value.str y t).isStr x with
    | false => rfl
    | true => exact absurd (isStr_iff.mp z) (zAZ q)
   simp only [this]
   have z : DictEntry.refKey ⟨PyData.keyHash P y, .str y t, v⟩ = false := rfl
   rw [List.any_cons, z, Bool.false_or]
   exact a
theorem EntR.set {P : Params} {B : Heap} {ads : Wd} {x : Str} {t : Tok} {sv : SV} {v : Value} (d : Den B ads sv v) : ∀ {es : List DictEntry} {fs : List (Str × SV)}, EntR P B ads es fs →
  EntR P B ads (putL x (PyData.keyHash P x) (.str x t) v es) (put x sv fs)
 | _, _, .nil => .cons d .nil
 | _, _, .cons (x := y) (t := u) (v := w) (es := es) d' r => by
  unfold putL put
  cases q : Fast.sEq x y with
  | true =>
   have : (Value.str y u).isStr x = true := isStr_iff.mpr (zAO q)
   simp only [this, if_true]
   exact .cons d r
  | false =>
   have : (Value.str y u).isStr x = false := by
    cases z : (Value.str y u).isStr x with
    | false => rfl
    | true => exact absurd (isStr_iff.mp z) (zAZ q)
   simp only [this, Bool.false_eq_true, if_false]
   exact .cons d' (r.set d)
theorem EntR.some {P : Params} {B : Heap} {ads : Wd} {x : Str} {es : List DictEntry} {fs : List (Str × SV)} (h : EntR P B ads es fs) : (getL x es).isSome = true := by
 cases q : lk x fs with
 | none => rw [h.miss q]; rfl
 | some sv => obtain ⟨v, e, _⟩ := h.get q; rw [e]; rfl
theorem EntR.length {P : Params} {B : Heap} {ads : Wd} {es : List DictEntry} {fs : List (Str × SV)} (h : EntR P B ads es fs) : es.length = fs.length := by
 induction h with
 | nil => rfl
 | cons _ _ ih => simp [ih]
inductive DenL (B : Heap) (ads : Wd) : List SV → List Value → Prop
 | nil : DenL B ads [] []
 | cons {x : SV} {v : Value} {xs : List SV} {vs : List Value} : Den B ads x v → DenL B ads xs vs → DenL B ads (x :: xs) (v :: vs)
theorem DenL.one {B : Heap} {G : Wd} {x : SV} {vs : List Value} (h : DenL B G [x] vs) : ∃ v, vs = [v] ∧ Den B G x v := by
 cases h with
 | cons d r => cases r; exact ⟨_, rfl, d⟩
theorem DenL.two {B : Heap} {G : Wd} {x y : SV} {vs : List Value} (h : DenL B G [x, y] vs) : ∃ v u, vs = [v, u] ∧ Den B G x v ∧ Den B G y u := by
 cases h with
 | cons d r =>
  obtain ⟨u, rfl, e⟩ := r.one
  exact ⟨_, _, rfl, d, e⟩
theorem DenL.mono {B : Heap} {ads more : Wd} {xs : List SV} {vs : List Value} (h : DenL B ads xs vs) : DenL B (wa ads more) xs vs := by
 induction h with
 | nil => exact .nil
 | cons d _ ih => exact .cons d.mono ih
theorem DenL.length {B : Heap} {ads : Wd} {xs : List SV} {vs : List Value} (h : DenL B ads xs vs) : xs.length = vs.length := by
 induction h with
 | nil => rfl
 | cons _ _ ih => simp [ih]
theorem DenL.append {B : Heap} {ads : Wd} {xs ys : List SV} {vs us : List Value} (h : DenL B ads xs vs) (h' : DenL B ads ys us) : DenL B ads (xs ++ ys) (vs ++ us) := by
 induction h with
 | nil => exact h'
 | cons d _ ih => exact .cons d ih
theorem DenL.get {B : Heap} {ads : Wd} {x : SV} : ∀ {xs : List SV} {vs : List Value} {i : Nat}, DenL B ads xs vs → xs[i]? = some x → ∃ v, vs[i]? = some v ∧ Den B ads x v
 | _, _, _, .nil, h => by simp at h
 | _, _, 0, .cons d _, h => by
  simp only [List.getElem?_cons_zero, Option.some.injEq] at h
  subst h
  exact ⟨_, rfl, d⟩
 | _, _, i + 1, .cons _ r, h => r.get (i := i) (by simpa using h)
theorem zPq {B : Heap} {W : Wd} {v : Value} {d : PyData} (f : Fits d) (r : Rd B W.fz v d) : Den B W (svOf d) v := by
 cases f with
 | none => cases r; rfl
 | bool b => cases r; rfl
 | int i => cases r; exact ⟨_, rfl⟩
 | str l => cases r; exact ⟨⟨_, rfl⟩, l⟩
 | list a b =>
  obtain ⟨x, e⟩ : ∃ x, v = .ref x := by cases r; exact ⟨_, rfl⟩
  exact ⟨⟨x, e⟩, .list a b, r⟩
 | tuple a b =>
  obtain ⟨x, e⟩ : ∃ x, v = .ref x := by cases r; exact ⟨_, rfl⟩
  exact ⟨⟨x, e⟩, .tuple a b, r⟩
 | dict a b c => cases r
theorem zMz {B : Heap} {W : Wd} : ∀ {vs : List Value} {ds : List PyData}, (∀ d ∈ ds, Fits d) → RdL B W.fz vs ds → DenL B W (ds.map svOf) vs := by
 intro vs
 induction vs with
 | nil => intro ds _ r; cases r; exact .nil
 | cons v vs ih => intro ds f r; cases r with | cons r rs => exact .cons (zPq (f _ (.head _)) r) (ih (fun d hd => f d (.tail _ hd)) rs)
noncomputable abbrev zCU (vs : List Value) (n : Nat) : Obj := { cls := .type "list", data := .seq vs.toArray n }
noncomputable abbrev tupO (vs : List Value) (n : Nat) : Obj := { cls := .type "tuple", data := .seq vs.toArray n }
noncomputable def zPI (b : Bool) (o : Obj) (v : Value) (j : Nat) : Prop := match v with
 | .ref l => o.cls = .type (if b then "list_iterator" else "tuple_iterator") ∧ o.data = .fields #[.ref l, .int j 0]
 | .str x t => o.cls = .type (strIterType x) ∧ o.data = .fields #[.str x t, .int j 0]
 | _ => False
noncomputable abbrev zDa (n j : Nat) : Obj := { cls := .type "range_iterator", dict := none, data := .fields #[rawInt j, rawInt ((n : Int) - j), rawInt 1], slots := #[] }
noncomputable abbrev rngO (n : Nat) (t u v : Tok) : Obj := { cls := .type "range", dict := none, data := .fields #[.int 0 t, .int n u, .int 1 v], slots := #[] }
noncomputable def DicO (P : Params) (o : Obj) (kvs : List (Str × Value)) : Prop := ∃ (prog : Program) (w : World), w.params = P ∧ o.IsDictOf (strKind prog w) kvs
inductive KvR (B : Heap) (G : Wd) : List (Str × SV) → List (Str × Value) → Prop
 | nil : KvR B G [] []
 | cons {x : Str} {sv : SV} {v : Value} {fs : List (Str × SV)} {kvs : List (Str × Value)} : Den B G sv v → KvR B G fs kvs → KvR B G ((x, sv) :: fs) ((x, v) :: kvs)
theorem KvR.mono {B : Heap} {G more : Wd} {fs : List (Str × SV)} {kvs : List (Str × Value)} (h : KvR B G fs kvs) : KvR B (wa G more) fs kvs := by
 induction h with
 | nil => exact .nil
 | cons d _ ih => exact .cons d.mono ih
theorem KvR.names {B : Heap} {G : Wd} {fs : List (Str × SV)} {kvs : List (Str × Value)} (h : KvR B G fs kvs) : kvs.map (·.1) = fs.map (·.1) := by
 induction h with
 | nil => rfl
 | cons d _ ih => simp [ih]
theorem KvR.length {B : Heap} {G : Wd} {fs : List (Str × SV)} {kvs : List (Str × Value)} (h : KvR B G fs kvs) : kvs.length = fs.length := by
 have := congrArg List.length h.names; simpa using this
noncomputable abbrev tabO (ps : Array Value) : Obj := { cls := .none, data := .fields ps }
inductive One (P : Params) (B : Heap) (G : Wd) : SO → Addr → Addr → List (Addr × Obj) → Prop
 | inst {a d C : Addr} {es : List DictEntry} {n : Nat} {fs : List (Str × SV)} : EntR P B G es fs → One P B G (.inst C fs) a d [(a, instObj C d), (d, dictOf es n)]
 | raw {a d : Addr} {o : Obj} : One P B G (.raw o) a d [(a, o)]
 | list {a d : Addr} {xs : List SV} {vs : List Value} {n : Nat} : DenL B G xs vs → One P B G (.list xs) a d [(a, zCU vs n)]
 | tup {a d : Addr} {xs : List SV} {vs : List Value} {n : Nat} : DenL B G xs vs → One P B G (.tup xs) a d [(a, tupO vs n)]
 | cell {a d : Addr} {o : Obj} {v : SV} {x : Value} : o.data = .cell (some x) → Den B G v x → One P B G (.cell (some v)) a d [(a, o)]
 | cell0 {a d : Addr} {o : Obj} : o.data = .cell none → One P B G (.cell none) a d [(a, o)]
 | dic {a d : Addr} {o : Obj} {kvs : List (Str × Value)} {fs : List (Str × SV)} : DicO P o kvs → KvR B G fs kvs → One P B G (.dic fs) a d [(a, o)]
 | it {a d : Addr} {o : Obj} {v : Value} {b : Bool} {src : SV} {j : Nat} : zPI b o v j → Den B G src v → One P B G (.it b src j) a d [(a, o)]
 | itr {a d : Addr} {n j : Nat} : One P B G (.itr n j) a d [(a, zDa n j)]
 | rng {a d : Addr} {n : Nat} {t u v : Tok} : n ≤ sizeLine → One P B G (.rng n) a d [(a, rngO n t u v)]
 | gone {a d : Addr} : One P B G .gone a d []
 | tab {a d : Addr} {ps : Array Value} : TriplesOk ps.toList → One P B G (.tab a) a d [(a, tabO ps)]
theorem One.mono {P : Params} {B : Heap} {G more : Wd} {so : SO} {a d : Addr} {ps : List (Addr × Obj)} (h : One P B G so a d ps) : One P B (wa G more) so a d ps := by
 cases h with
 | inst e => exact .inst e.mono
 | raw => exact .raw
 | list e => exact .list e.mono
 | tup e => exact .tup e.mono
 | cell e f => exact .cell e f.mono
 | cell0 e => exact .cell0 e
 | dic e f => exact .dic e f.mono
 | it e f => exact .it e f.mono
 | itr => exact .itr
 | rng e => exact .rng e
 | gone => exact .gone
 | tab e => exact .tab e
noncomputable def OneX (P : Params) (B : Heap) (G : Wd) : SO → Addr → Addr → List (Addr × Obj) → Prop
 | .inst C fs, a, d, ps => ∃ (es : List DictEntry) (n : Nat), EntR P B G es fs ∧ ps = [(a, instObj C d), (d, dictOf es n)]
 | .raw o, a, _, ps => ps = [(a, o)]
 | .list xs, a, _, ps => ∃ (vs : List Value) (n : Nat), DenL B G xs vs ∧ ps = [(a, zCU vs n)]
 | .tup xs, a, _, ps => ∃ (vs : List Value) (n : Nat), DenL B G xs vs ∧ ps = [(a, tupO vs n)]
 | .cell o, a, _, ps => ∃ (p : Obj), ps = [(a, p)] ∧ match o with
  | some v => ∃ (x : Value), p.data = .cell (some x) ∧ Den B G v x
  | none => p.data = .cell none
 | .dic fs, a, _, ps => ∃ (o : Obj) (kvs : List (Str × Value)), DicO P o kvs ∧ KvR B G fs kvs ∧ ps = [(a, o)]
 | .it b src j, a, _, ps => ∃ (o : Obj) (v : Value), zPI b o v j ∧ Den B G src v ∧ ps = [(a, o)]
 | .itr n j, a, _, ps => ps = [(a, zDa n j)]
 | .rng n, a, _, ps => ∃ (t u v : Tok), n ≤ sizeLine ∧ ps = [(a, rngO n t u v)]
 | .gone, _, _, ps => ps = []
 | .tab a, b, _, ps => a = b ∧ ∃ (vs : Array Value), TriplesOk vs.toList ∧ ps = [(a, tabO vs)]
theorem One.inv {P : Params} {B : Heap} {G : Wd} {so : SO} {a d : Addr} {ps : List (Addr × Obj)} (h : One P B G so a d ps) : OneX P B G so a d ps := by
 cases h with
 | inst e => exact ⟨_, _, e, rfl⟩
 | raw => exact rfl
 | list e => exact ⟨_, _, e, rfl⟩
 | tup e => exact ⟨_, _, e, rfl⟩
 | cell e f => exact ⟨_, rfl, _, e, f⟩
 | cell0 e => exact ⟨_, rfl, e⟩
 | dic e f => exact ⟨_, _, e, f, rfl⟩
 | it e f => exact ⟨_, _, e, f, rfl⟩
 | itr => exact rfl
 | rng e => exact ⟨_, _, _, e, rfl⟩
 | gone => exact rfl
 | tab e => exact ⟨rfl, _, e, rfl⟩
inductive LedR (P : Params) (B : Heap) (G : Wd) : List (Addr × Addr) → List SO → List (Addr × Obj) → Prop
 | nil : LedR P B G [] [] []
 | cons {a d : Addr} {so : SO} {ps : List (Addr × Obj)} {ads : List (Addr × Addr)} {led : List SO} {news : List (Addr × Obj)} : One P B G so a d ps → LedR P B G ads led news → LedR P B G ((a, d) :: ads) (so :: led) (ps ++ news)
theorem LedR.mono {P : Params} {B : Heap} {G more : Wd} {ads : List (Addr × Addr)} {led : List SO} {news : List (Addr × Obj)} (h : LedR P B G ads led news) : LedR P B (wa G more) ads led news := by
 induction h with
 | nil => exact .nil
 | cons e _ ih => exact .cons e.mono ih
theorem LedR.append {P : Params} {B : Heap} {G : Wd} {ads ads' : List (Addr × Addr)} {led led' : List SO} {news news' : List (Addr × Obj)} (h : LedR P B G ads led news) (h' : LedR P B G ads' led' news') : LedR P B G (ads ++ ads') (led ++ led') (news ++ news') := by
 induction h with
 | nil => exact h'
 | cons e _ ih => rw [List.append_assoc]; exact .cons e ih
theorem LedR.length {P : Params} {B : Heap} {G : Wd} {ads : List (Addr × Addr)} {led : List SO} {news : List (Addr × Obj)} (h : LedR P B G ads led news) : led.length = ads.length := by
 induction h with
 | nil => rfl
 | cons _ _ ih => simp [ih]
theorem LedR.at {P : Params} {B : Heap} {G : Wd} {so : SO} : ∀ {ads : List (Addr × Addr)} {led : List SO} {news : List (Addr × Obj)} {i : Nat}, LedR P B G ads led news → led[i]? = some so →
  ∃ pre ps post a d, news = pre ++ ps ++ post ∧ ads[i]? = some (a, d) ∧ One P B G so a d ps ∧ ∀ so' ps', One P B G so' a d ps' → LedR P B G ads (led.set i so') (pre ++ ps' ++ post)
 | _, _, _, _, .nil, h => by simp at h
 | _, _, _, 0, .cons (a := a) (d := d) (ps := ps) (news := news) e r, h => by
  simp only [List.getElem?_cons_zero, Option.some.injEq] at h
  subst h
  exact ⟨[], ps, news, a, d, rfl, rfl, e, fun so' ps' e' => .cons e' r⟩
 | _, _, _, i + 1, .cons (a := a) (d := d) (ps := qs) (news := news) e r, h => by
  obtain ⟨pre, ps, post, a', d', h1, h2, h3, h4⟩ := r.at (i := i) (by simpa using h)
  exact ⟨qs ++ pre, ps, post, a', d', by rw [h1]; simp, by simpa using h2, h3, fun x y z => by
   have := LedR.cons e (h4 x y z)
   simpa using this⟩
theorem zCX {α : Type} {x : Str} {a : α} : ∀ {l : List (Str × α)}, lk x l = some a → (x, a) ∈ l
 | [], h => by cases h
 | (y, b) :: r, h => by
  unfold lk at h
  cases q : Fast.sEq x y with
  | true => rw [q] at h; cases h; rw [zAO q]; exact .head _
  | false => rw [q] at h; exact .tail _ (zCX h)
noncomputable def kids : Expr → List Expr
 | .BoolOp _ vs _ => vs
 | .Compare l _ rs _ => l :: rs
 | .Call f as _ _ => f :: as
 | .Attribute o _ _ => [o]
 | .BinOp l _ r _ => [l, r]
 | .GeneratorExp e gs _ _ => match gs with
  | g :: _ => [e, g.target, g.iter]
  | [] => [e]
 | _ => []
noncomputable def kid (e : Expr) : List Nat → Expr
 | [] => e
 | n :: r => kid (((kids e)[n]?).getD default) r
noncomputable def kp (e : Expr) (l : List Nat) : Pos := (kid e l).pos
noncomputable def kK (e : Expr) (l : List Nat) : Nat := match kid e l with
 | .Constant _ k _ => k
 | _ => 0
noncomputable def sEx : Stmt → Expr
 | .If t _ _ _ => t
 | .Return v _ => v.getD default
 | _ => default
noncomputable def sBo : Stmt → List Stmt
 | .If _ b _ _ => b
 | _ => []
noncomputable def kw0 : Expr → Keyword
 | .Call _ _ (k :: _) _ => k
 | _ => ⟨none, default, default⟩
noncomputable def geSc : Expr → Scope
 | .GeneratorExp _ _ sc _ => sc
 | _ => default
structure FnE where
 fa : Addr
 na : Nat
 names : List Str
 more : List (Str × Value)
 body : List Stmt
 scope : Scope
 qual : Str
 cd : Value
 cells : List Str := []
structure ClsE where
 C : Addr
 attrs : List Str
 meths : List (Str × Addr)
 props : List (Str × Addr × Addr)
structure SpE where
 fa : Addr
 na : Nat
 d : Nat
 sp : List SV → St → Kt → Prop
structure HkE (α : Type) where
 line : Nat
 col : Nat
 d : Nat
 x : α
 sp : List (Str × NameKind) → St → Kt → Prop
structure Cf where
 K : Frag
 globs : List (Str × Value)
 fns : List FnE
 cls : List ClsE
 sps : List SpE := []
 hxs : List (HkE Expr) := []
 hss : List (HkE Stmt) := []
 known : Bool := true
structure Fm where
 B : Heap
 h₀ : Heap
 L : Addr
 env : Env
 A : Around
 stk : List Env
 lows : List (Addr × Obj)
 quiet : Bool
noncomputable abbrev Fm.sc (F : Fm) : Scope := F.env.scope
structure GlobOk (h : Heap) : Prop where
 lim : h.NoLimit
 ns : ∃ mg mb, h.Ns mainGlobals mg ∧ h.Ns builtinsNs mb ∧ ∀ x : Str, x ≠ "__name__" → mb x = bootBuiltins x
 stat : ∃ o, h.get? cStatics = some o ∧ lookIn "thirdparty.any" o = some none
 sm : ∃ o, h.get? sysModules = some o
theorem GlobOk.keeps {h h' : Heap} (G : GlobOk h) (k : ∀ b o, h.get? b = some o → h'.get? b = some o) : GlobOk h' :=
 ⟨G.lim.keeps k, let ⟨mg, mb, a, b, c⟩ := G.ns; ⟨mg, mb, a.keeps k, b.keeps k, c⟩, let ⟨o, a, b⟩ := G.stat; ⟨o, k _ _ a, b⟩, let ⟨o, a⟩ := G.sm; ⟨o, k _ _ a⟩⟩
inductive Ups : List (Addr × Obj) → List (Addr × Obj) → Prop
 | nil : Ups [] []
 | cons {a : Addr} {o : Obj} {sl : Array (Option Value)} {l l' : List (Addr × Obj)} : Ups l l' → Ups ((a, o) :: l) ((a, { o with slots := sl }) :: l')
theorem Ups.refl : ∀ l : List (Addr × Obj), Ups l l
 | [] => .nil
 | (a, o) :: r => .cons (o := o) (sl := o.slots) (Ups.refl r)
theorem Ups.trans : ∀ {a b c : List (Addr × Obj)}, Ups a b → Ups b c → Ups a c := by
 intro a b c x
 induction x generalizing c with
 | nil => exact fun y => y
 | cons _ ih => intro y; cases y with | cons y => exact .cons (ih y)
theorem Ups.keys : ∀ {a b : List (Addr × Obj)}, Ups a b → b.map (·.1) = a.map (·.1) := by
 intro a b x
 induction x with
 | nil => rfl
 | @cons a _ _ _ _ _ ih => exact congrArg (List.cons a) ih
theorem Ups.back : ∀ {a b : List (Addr × Obj)} {q : Addr × Obj}, Ups a b → q ∈ b → ∃ o, (q.1, o) ∈ a ∧ q.2 = { o with slots := q.2.slots }
 | _, _, _, .nil, h => by cases h
 | _, _, _, .cons x, h => by
  rcases List.mem_cons.mp h with rfl | h
  ·exact ⟨_, .head _, rfl⟩
  ·obtain ⟨o, a, e⟩ := x.back h; exact ⟨o, .tail _ a, e⟩
structure LowOk (stk : List Env) (L : Addr) (lows : List (Addr × Obj)) : Prop where
 env : ∀ env ∈ stk, env.scope.kind ≠ .module ∧ ∃ L', env.frame = some L' ∧ (L' = L ∨ L' ∈ lows.map (·.1))
 dat : ∀ p ∈ lows, ∀ vs, p.2.data ≠ .fields vs
theorem LowOk.ups {stk : List Env} {L : Addr} {lows lw : List (Addr × Obj)} (l : LowOk stk L lows) (u : Ups lows lw) : LowOk stk L lw := by
 refine ⟨fun env he => ?_, fun p hp vs q => ?_⟩
 ·obtain ⟨a, L, b, c⟩ := l.env env he
  exact ⟨a, L, b, by rw [u.keys]; exact c⟩
 ·obtain ⟨o, a, e⟩ := u.back hp
  refine l.dat _ a vs ?_
  rw [e] at q; exact q
theorem LowOk.push {stk : List Env} {lows : List (Addr × Obj)} {env : Env} {L L₂ : Addr} {o : Obj} (l : LowOk stk L lows) (h1 : env.scope.kind ≠ .module) (h2 : env.frame = some L₂) (h3 : ∀ vs, o.data ≠ .fields vs) : LowOk (env :: stk) L₂ ((L, o) :: lows) := by
 refine ⟨fun e he => ?_, fun p hp vs => ?_⟩
 ·rcases List.mem_cons.mp he with rfl | he
  ·exact ⟨h1, L₂, h2, .inl rfl⟩
  ·obtain ⟨a, L', b, c⟩ := l.env e he
   refine ⟨a, L', b, .inr ?_⟩
   rcases c with rfl | c
   ·exact .head _
   ·exact .tail _ c
 ·rcases List.mem_cons.mp hp with rfl | hp
  ·exact h3 vs
  ·exact l.dat p hp vs
theorem LowOk.inner {stk : List Env} {lows : List (Addr × Obj)} {L L₂ : Addr} {o : Obj} (l : LowOk stk L lows) (h3 : ∀ vs, o.data ≠ .fields vs) : LowOk stk L₂ ((L, o) :: lows) := by
 refine ⟨fun e he => ?_, fun p hp vs => ?_⟩
 ·obtain ⟨a, L', b, c⟩ := l.env e he
  refine ⟨a, L', b, .inr ?_⟩
  rcases c with rfl | c
  ·exact .head _
  ·exact .tail _ c
 ·rcases List.mem_cons.mp hp with rfl | hp
  ·exact h3 vs
  ·exact l.dat p hp vs
structure FmOk (C : Cf) (F : Fm) : Prop where
 X : C.K.In F.h₀
 G : GlobOk F.h₀
 stay : F.B.StaysIn F.h₀
 kind : F.sc.kind = .function
 hand : F.A.handled = none
 stack : C.known = true → F.A.frames = some F.stk
 loud : C.known = true → F.quiet = false
 low : LowOk F.stk F.L F.lows
 loc : F.env.locals = F.L
 gl : F.env.globals = mainGlobals
 bi : F.env.builtins = builtinsNs
 cel : ∀ x, F.sc.names.lookup x = some .local → F.env.cells.lookup x = none
 cel2 : ∀ x, F.sc.names.lookup x = some .cell → ∃ a, F.env.cells.lookup x = some a
noncomputable def locM (env : Env) (m : Str → Option Value) : Str → Option Value := fun x => match env.cells.lookup x with
 | some a => some (.ref a)
 | none => m x
structure RepX (w : World) (F : Fm) (ads : Wd) (st : St) (h : Heap) (m : Str → Option Value) (news lw : List (Addr × Obj)) : Prop where
 fr : Fr F.h₀ F.L h m
 nw : News F.h₀ F.L h (news ++ (ads.fz ++ lw))
 loc : LocR F.B ads st.loc (locM F.env m)
 led : LedR w.params F.B ads ads.ads st.led news
 nd : ((news ++ (ads.fz ++ lw)).map (·.1)).Nodup
 ups : Ups F.lows lw
noncomputable def Rep (w : World) (F : Fm) (ads : Wd) (st : St) (h : Heap) : Prop := ∃ m news lw, RepX w F ads st h m news lw
structure NxB (q : Bool) (s s' : Shared) : Prop where
 drawn : s'.drawn = s.drawn
 os : s'.os = s.os
 keep : ∀ (i : Nat) (x : GenState), s.gens[i]? = some x → s'.gens[i]? = some x
 done : ∀ (i : Nat) (x : GenState), s'.gens[i]? = some x → s.gens[i]? = some x ∨ x.bare = true
 quiet : q = true → s'.gens = s.gens
noncomputable abbrev Nx (F : Fm) (s s' : Shared) : Prop := NxB F.quiet s s'
theorem Nx.of_gens {q : Bool} {s s' : Shared} (a : s'.gens = s.gens) (b : s'.drawn = s.drawn) (c : s'.os = s.os) : NxB q s s' := ⟨b, c, fun i x e => by rw [a]; exact e, fun i x e => by rw [a] at e; exact .inl e, fun _ => a⟩
theorem Nx.refl {q : Bool} (s : Shared) : NxB q s s := Nx.of_gens rfl rfl rfl
theorem NxB.trans {q : Bool} {a b c : Shared} (x : NxB q a b) (y : NxB q b c) : NxB q a c :=
 ⟨y.drawn.trans x.drawn, y.os.trans x.os, fun i z e => y.keep i z (x.keep i z e), fun i z e => (y.done i z e).elim (fun q => x.done i z q) .inr, fun h => (y.quiet h).trans (x.quiet h)⟩
theorem Nx.mk' {q : Bool} (s : Shared) (h : Heap) (t : Nat) : NxB q s { s with heap := h, toks := t } := Nx.of_gens rfl rfl rfl
theorem zAa {q : Bool} (s : Shared) (t : Nat) : NxB q s { s with toks := t } := Nx.of_gens rfl rfl rfl
inductive CR where
 | v (x : Value)
 | b (x : Bool)
 | vs (l : List Value)
 | fl (f : Flow)
noncomputable def DenR (B : Heap) (ads : Wd) : SR → CR → Prop
 | .v x, .v y => Den B ads x y
 | .b x, .b y => x = y
 | .vs l, .vs l' => DenL B ads l l'
 | .next, .fl .next => True
 | .brk, .fl .brk => True
 | .cont, .fl .cont => True
 | .ret x, .fl (.ret y) => Den B ads x y
 | _, _ => False
inductive Tk where
 | ex (e : Expr)
 | tr (e : Expr)
 | st (s : Stmt)
 | sts (l : List Stmt)
 | args (es : List Expr) (pos : Pos)
 | wl (t : Expr) (b : List Stmt)
noncomputable def zEt (fa n : Nat) : List FnE → Option FnE
 | [] => none
 | e :: r => match Nat.beq e.fa fa with
  | true => match Nat.beq e.na n with
   | true => some e
   | false => zEt fa n r
  | false => zEt fa n r
noncomputable def zHg (fa n : Nat) : List SpE → Option SpE
 | [] => none
 | e :: r => match Nat.beq e.fa fa with
  | true => match Nat.beq e.na n with
   | true => some e
   | false => zHg fa n r
  | false => zHg fa n r
noncomputable def zBc {α : Type} (line col : Nat) : List (HkE α) → Option (HkE α)
 | [] => none
 | e :: r => match Nat.beq e.line line with
  | true => match Nat.beq e.col col with
   | true => some e
   | false => zBc line col r
  | false => zBc line col r
noncomputable def findCls (C : Nat) : List ClsE → Option ClsE
 | [] => none
 | e :: r => match Nat.beq e.C C with
  | true => some e
  | false => findCls C r
noncomputable def zBW (x : Str) : List Str → Bool
 | [] => false
 | y :: r => match Fast.sEq x y with
  | true => true
  | false => zBW x r
noncomputable def ifT (c : Bool) (a b : Prop) : Prop := match c with
 | true => a
 | false => b
theorem zBO {c : Bool} {a b : Prop} (h : ifT c a b) : (c = true → a) ∧ (c = false → b) := by
 cases c
 ·exact ⟨(fun e => nomatch e), fun _ => h⟩
 ·exact ⟨fun _ => h, (fun e => nomatch e)⟩
theorem zBX (a b : Str) : (a == b) = Fast.sEq a b := by
 cases h : Fast.sEq a b with
 | true => rw [zAO h]; exact beq_self_eq_true b
 | false => exact beq_eq_false_iff_ne.mpr (zAZ h)
noncomputable def Then (w : World) (F : Fm) (ads : Wd) (s : Shared) (k : Kt) (Q : CR → Shared → Prop) : Prop :=
 ∀ r st' more c s', k r st' → Rep w F (wa ads more) st' s'.heap → Nx F s s' → DenR F.B (wa ads more) r c → Q c s'
noncomputable def ThenV (w : World) (F : Fm) (ads : Wd) (s : Shared) (k : SV → St → Prop) (Q : Value → Shared → Prop) : Prop :=
 ∀ r st' more v s', k r st' → Rep w F (wa ads more) st' s'.heap → Nx F s s' → Den F.B (wa ads more) r v → Q v s'
section
variable {w : World} {F : Fm} {ads : Wd} {s : Shared}
theorem Then.of {k : Kt} {Q : CR → Shared → Prop} (T : Then w F ads s k Q) {r : SR} {st' : St} {more : Wd} {c : CR} {s' : Shared} (hk : k r st') (R : Rep w F (wa ads more) st' s'.heap) (x : Nx F s s') (d : DenR F.B (wa ads more) r c) : Q c s' := T r st' more c s' hk R x d
theorem Then.same {k : Kt} {Q : CR → Shared → Prop} (T : Then w F ads s k Q) {r : SR} {st' : St} {c : CR} {s' : Shared} (hk : k r st') (R : Rep w F ads st' s'.heap) (x : Nx F s s') (d : DenR F.B ads r c) : Q c s' :=
 T r st' .nil c s' hk (by rw [Wd.append_nil]; exact R) x (by rw [Wd.append_nil]; exact d)
theorem Then.later {k : Kt} {Q : CR → Shared → Prop} {more : Wd} {s₁ : Shared} (T : Then w F ads s k Q) (x : Nx F s s₁) : Then w F (wa ads more) s₁ k Q := fun r st' more' c s' hk R x' d =>
 T r st' (wa more more') c s' hk (by rw [← Wd.append_assoc]; exact R) (x.trans x') (by rw [← Wd.append_assoc]; exact d)
theorem Then.v {k : Kt} {Q : CR → Shared → Prop} (T : Then w F ads s k Q) : ThenV w F ads s (fun z st => k (.v z) st) (fun v s' => Q (.v v) s') := fun r st' more v s' hk R x d => T (.v r) st' more (.v v) s' hk R x d
theorem ThenV.same {k : SV → St → Prop} {Q : Value → Shared → Prop} (T : ThenV w F ads s k Q) {r : SV} {st' : St} {v : Value} {s' : Shared} (hk : k r st') (R : Rep w F ads st' s'.heap) (x : Nx F s s') (d : Den F.B ads r v) : Q v s' :=
 T r st' .nil v s' hk (by rw [Wd.append_nil]; exact R) x (by rw [Wd.append_nil]; exact d)
end
section rep
variable {w : World} {C : Cf} {F : Fm} {ads : Wd} {s : Shared}
theorem zCo {st : St} {x : Str} {v : SV} (R : Rep w F ads st s.heap) (e : lk x st.loc = some v) : ∃ m news lw u, RepX w F ads st s.heap m news lw ∧ locM F.env m x = some u ∧ Den F.B ads v u := by
 obtain ⟨m, news, lw, X⟩ := R
 obtain ⟨u, a, b⟩ := X.loc x v e
 exact ⟨m, news, lw, u, X, a, b⟩
theorem zEP {st : St} {x : Str} {v : SV} {u : Value} {E : Value → Shared → Prop} {Q : Unit → Shared → Prop} (ok : FmOk C F) (R : Rep w F ads st s.heap) (d : Den F.B ads v u) (hl : F.sc.names.lookup x = some .local)
  (h : ∀ h' t, Rep w F ads { st with loc := put x v st.loc } h' → Q () { s with heap := h', toks := t }) : wpAny (model prog w) F.A (storeName F.env x u) Q E s := by
 obtain ⟨m, news, lw, X⟩ := R
 have ns : s.heap.Ns F.env.locals m := by rw [ok.loc]; exact X.fr.ns
 refine wpAny_storeName_local hl ns (fun h' hn hs => ?_) (by rw [show F.env.scope.kind = .function from ok.kind]; rfl)
 rw [ok.loc] at hn hs
 refine h h' _ ⟨_, news, lw, X.fr.set hn hs, X.nw.set hs, ?_, X.led, X.nd, X.ups⟩
 have e : locM F.env (fun y => if y = x then some u else m y) = fun y => if y = x then some u else locM F.env m y := by
  funext y
  unfold locM
  by_cases q : y = x
  ·subst q; rw [ok.cel y hl]
  ·simp only [if_neg q]
 rw [e]
 exact X.loc.set d
theorem zHL {C : Cf} (ok : FmOk C F) {x : Str} {m : Str → Option Value} (hl : F.sc.names.lookup x = some .local) : locM F.env m x = m x := by
 unfold locM; rw [ok.cel x hl]
theorem ldE {A : Around} {x : Str} {pos : Pos} {v : Value} {E : Value → Shared → Prop} {Q : Value → Shared → Prop} {m : Str → Option Value} (ok : FmOk C F) (X : Fr F.h₀ F.L s.heap m) (hl : F.sc.names.lookup x = some .local) (hv : locM F.env m x = some v) (h : Q v s)
  (hd : (x == ("__debug__" : Str)) = false) : wpAny (model prog w) A (eval (.Name x pos) F.env) Q E s :=
 wpAny_Name (wpAny_loadName_local ok.kind hl (by rw [ok.loc]; exact X.ns) ((zHL ok hl).symm.trans hv) h) hd
theorem ldnE {x : Str} {v : Value} {E : Value → Shared → Prop} {Q : Value → Shared → Prop} {m : Str → Option Value} (ok : FmOk C F) (X : Fr F.h₀ F.L s.heap m) (hl : F.sc.names.lookup x = some .local) (hv : locM F.env m x = some v) (h : Q v s) : wpAny (model prog w) F.A (loadName F.env x) Q E s :=
 wpAny_loadName_local ok.kind hl (by rw [ok.loc]; exact X.ns) ((zHL ok hl).symm.trans hv) h
theorem ldG {A : Around} {x : Str} {pos : Pos} {v : Value} {E : Value → Shared → Prop} {Q : Value → Shared → Prop} {m mg : Str → Option Value} (ok : FmOk C F) (X : Fr F.h₀ F.L s.heap m) (hg : F.h₀.Ns mainGlobals mg) (hb : mg x = some v) (h : Q v s)
  (hx : F.sc.names.lookup x = some .globalImplicit) (hd : (x == ("__debug__" : Str)) = false) : wpAny (model prog w) A (eval (.Name x pos) F.env) Q E s :=
 Calls.Name_function_global ok.kind hx (Calls.loadGlobal_global (env := F.env) (by rw [ok.gl]; exact hg.keeps X.keep) hb h) hd
theorem ldB {A : Around} {x : Str} {pos : Pos} {v : Value} {E : Value → Shared → Prop} {Q : Value → Shared → Prop} {m mg mb : Str → Option Value} (ok : FmOk C F) (X : Fr F.h₀ F.L s.heap m) (hg : F.h₀.Ns mainGlobals mg) (hmiss : mg x = none) (hb : F.h₀.Ns builtinsNs mb) (hv : mb x = some v) (h : Q v s)
  (hx : F.sc.names.lookup x = some .globalImplicit) (hd : (x == ("__debug__" : Str)) = false) : wpAny (model prog w) A (eval (.Name x pos) F.env) Q E s :=
 Calls.Name_function_global ok.kind hx (Calls.loadGlobal_builtin (env := F.env) (by rw [ok.gl]; exact hg.keeps X.keep) hmiss (by rw [ok.bi]; exact hb.keeps X.keep) hv h) hd
theorem zAr {st : St} {h : Heap} {o : Obj} {so : SO} (hf : o.isFreed = false) (R : Rep w F ads st h) (one : One w.params F.B (wa ads (.one h.objs.size 0)) so h.objs.size 0 [(h.objs.size, o)]) :
  Rep w F (wa ads (.one h.objs.size 0)) { st with led := st.led ++ [so] } (h.push o) := by
 obtain ⟨m, news, lw, X⟩ := R
 have N' := X.nw.push X.fr o hf
 have efz : (wa ads (Wd.one h.objs.size 0)).fz = ads.fz := by rw [Wd.fz_append]; exact List.append_nil _
 refine ⟨m, news ++ [(h.objs.size, o)], lw, X.fr.push o, fun p hp => N' p ?_, X.loc.mono, ?_, ?_, X.ups⟩
 ·rw [efz] at hp
  rcases List.mem_append.mp hp with q | q
  ·rcases List.mem_append.mp q with q | q
   ·exact .tail _ (List.mem_append_left _ q)
   ·rw [List.mem_singleton.mp q]; exact .head _
  ·exact .tail _ (List.mem_append_right _ q)
 ·have := X.led.mono (more := .one h.objs.size 0)
  have z := this.append (LedR.cons one LedR.nil)
  rw [List.append_nil] at z
  exact z
 ·rw [efz]
  have pm : (news ++ [(h.objs.size, o)] ++ (ads.fz ++ lw)).Perm ((h.objs.size, o) :: (news ++ (ads.fz ++ lw))) := by
   rw [List.append_assoc, List.singleton_append]
   exact List.perm_middle
  refine (pm.map (·.1)).nodup_iff.mpr ?_
  rw [List.map_cons, List.nodup_cons]
  refine ⟨fun ha => ?_, X.nd⟩
  obtain ⟨p, hp, e⟩ := List.mem_map.mp ha
  exact Nat.ne_of_lt (Heap.lt_size (X.nw p hp).1) e
theorem zJM {st : St} {h : Heap} (o : Obj) (R : Rep w F ads st h) : Rep w F ads st (h.push o) := by
 obtain ⟨m, news, lw, X⟩ := R
 exact ⟨m, news, lw, X.fr.push o, fun p hp => ⟨Heap.get?_push_of_some _ (X.nw p hp).1, (X.nw p hp).2⟩, X.loc, X.led, X.nd, X.ups⟩
theorem zCM {st : St} {h : Heap} (ok : FmOk C F) (R : Rep w F ads st h) : Look F.B ads.fz h := by
 obtain ⟨m, news, lw, X⟩ := R
 exact ⟨fun b o e => X.fr.keep b o (ok.stay b o e), fun p hp => (X.nw p (List.mem_append_right _ (List.mem_append_left _ hp))).1⟩
theorem zCn {F : Fm} {ads : Wd} {st : St} {h h' : Heap} (R : Rep w F ads st h) (e : ∀ b o, h.get? b = some o → h'.get? b = some o) : Rep w F ads st h' := by
 obtain ⟨m, news, lw, X⟩ := R
 exact ⟨m, news, lw, ⟨X.fr.ns.at' fun o q => e _ o q, fun b o q => e _ _ (X.fr.keep b o q), X.fr.above⟩, fun p hp => ⟨e _ _ (X.nw p hp).1, (X.nw p hp).2⟩, X.loc, X.led, X.nd, X.ups⟩
section
variable {st : St}
theorem zCL {h h' : Heap} {i : Nat} {so' : SO} {a : Addr} {o o' : Obj} {m : Str → Option Value} {news lw pre post : List (Addr × Obj)} (X : RepX w F ads st h m news lw)
  (e : news = pre ++ [(a, o)] ++ post) (hl : LedR w.params F.B ads ads.ads (st.led.set i so') (pre ++ [(a, o')] ++ post)) (ho : h'.get? a = some o') (hs : ∀ b, b ≠ a → ∀ o, h.get? b = some o → h'.get? b = some o) :
  Rep w F ads { st with led := st.led.set i so' } h' := by
 subst e
 have ha := X.nw (a, o) (by simp)
 have nd := X.nd
 have nd1 : ∀ p ∈ pre ++ post ++ (ads.fz ++ lw), p.1 ≠ a := by
  have pm : (pre ++ [(a, o)] ++ post ++ (ads.fz ++ lw)).Perm ((a, o) :: (pre ++ post ++ (ads.fz ++ lw))) := by
   rw [List.append_assoc, List.append_assoc, List.append_assoc]
   exact List.perm_middle
  have z := (pm.map (·.1)).nodup_iff.mp nd
  rw [List.map_cons, List.nodup_cons] at z
  intro p hp q
  exact z.1 (List.mem_map.mpr ⟨p, hp, q⟩)
 refine ⟨m, pre ++ [(a, o')] ++ post, lw, ⟨X.fr.ns.at' fun o q => hs _ (fun z => ha.2.1 z.symm) _ q, fun b o q => hs b (fun z => ?_) o (X.fr.keep b o q), X.fr.above⟩, fun p hp => ?_, X.loc, hl, ?_, X.ups⟩
 ·rw [z, ha.2.2] at q; cases q
 ·have hp' : p = (a, o') ∨ p ∈ pre ++ post ++ (ads.fz ++ lw) := by
   simp only [List.mem_append, List.mem_singleton] at hp ⊢
   rcases hp with ((q | q) | q) | q
   ·exact .inr (.inl (.inl q))
   ·exact .inl q
   ·exact .inr (.inl (.inr q))
   ·exact .inr (.inr q)
  rcases hp' with rfl | q
  ·exact ⟨ho, ha.2⟩
  ·have z := X.nw p (by
    simp only [List.mem_append, List.mem_singleton] at q ⊢
    rcases q with (q | q) | q
    ·exact .inl (.inl (.inl q))
    ·exact .inl (.inr q)
    ·exact .inr q)
   exact ⟨hs _ (nd1 p q) _ z.1, z.2⟩
 ·have : (pre ++ [(a, o')] ++ post ++ (ads.fz ++ lw)).map (·.1) = (pre ++ [(a, o)] ++ post ++ (ads.fz ++ lw)).map (·.1) := by simp
  rw [this]; exact nd
theorem zCq {h : Heap} {i : Nat} {so : SO} (R : Rep w F ads st h) (hi : st.led[i]? = some so) : ∃ m news lw pre ps post a d, RepX w F ads st h m news lw ∧ news = pre ++ ps ++ post ∧ ads.ads[i]? = some (a, d) ∧ One w.params F.B ads so a d ps ∧
  ∀ so' ps', One w.params F.B ads so' a d ps' → LedR w.params F.B ads ads.ads (st.led.set i so') (pre ++ ps' ++ post) := by
 obtain ⟨m, news, lw, X⟩ := R
 obtain ⟨pre, ps, post, a, d, h1, h2, h3, h4⟩ := X.led.at hi
 exact ⟨m, news, lw, pre, ps, post, a, d, X, h1, h2, h3, h4⟩
theorem zHC {h h' : Heap} {i : Nat} {a : Addr} {o : Obj} {m : Str → Option Value} {news lw pre post : List (Addr × Obj)} (X : RepX w F ads st h m news lw)
  (e : news = pre ++ [(a, o)] ++ post) (hl : LedR w.params F.B ads ads.ads (st.led.set i .gone) (pre ++ [] ++ post)) (hs : ∀ b, b ≠ a → ∀ o, h.get? b = some o → h'.get? b = some o) :
  Rep w F ads { st with led := st.led.set i .gone } h' := by
 subst e
 have ha := X.nw (a, o) (by simp)
 have nd := X.nd
 have pm : (pre ++ [(a, o)] ++ post ++ (ads.fz ++ lw)).Perm ((a, o) :: (pre ++ [] ++ post ++ (ads.fz ++ lw))) := by
  simp only [List.append_assoc, List.append_nil, List.nil_append]
  exact List.perm_middle
 have z := (pm.map (·.1)).nodup_iff.mp nd
 rw [List.map_cons, List.nodup_cons] at z
 refine ⟨m, pre ++ [] ++ post, lw, ⟨X.fr.ns.at' fun o q => hs _ (fun z => ha.2.1 z.symm) _ q, fun b o q => hs b (fun z => ?_) o (X.fr.keep b o q), X.fr.above⟩, fun p hp => ?_, X.loc, hl, z.2, X.ups⟩
 ·rw [z, ha.2.2] at q; cases q
 ·have y := X.nw p (pm.mem_iff.mpr (.tail _ hp))
  exact ⟨hs _ (fun q => z.1 (List.mem_map.mpr ⟨p, hp, q⟩)) _ y.1, y.2⟩
theorem zHu (ok : FmOk C F) {x : Str} {i : Nat} {m : Str → Option Value} (hk : F.sc.names.lookup x = some .cell) {u : Value} (e : locM F.env m x = some u) (d : Den F.B ads (.obj i) u) : ∃ p, F.env.cells.lookup x = some p.1 ∧ ads.ads[i]? = some p ∧ u = .ref p.1 := by
 obtain ⟨a, ha⟩ := ok.cel2 x hk
 obtain ⟨p, hp, rfl⟩ := d
 unfold locM at e
 rw [ha] at e
 cases e
 exact ⟨p, ha, hp, rfl⟩
theorem zNw {x : Str} {i : Nat} {v : SV} {E : Value → Shared → Prop} {Q : Value → Shared → Prop} (ok : FmOk C F) (R : Rep w F ads st s.heap) (hk : F.sc.names.lookup x = some .cell) (e : lk x st.loc = some (.obj i)) (hi : st.led[i]? = some (.cell (some v)))
  (h : ∀ u, Den F.B ads v u → Q u s) : wpAny (model prog w) F.A (loadName F.env x) Q E s := by
 obtain ⟨m, news, lw, pre, ps, post, a, d, X, h1, h2, h3, h4⟩ := zCq R hi
 obtain ⟨u, e1, e2⟩ := X.loc x _ e
 obtain ⟨p, c1, c2, rfl⟩ := zHu ok hk e1 e2
 rw [h2] at c2; cases c2
 obtain ⟨o, rfl, y, hd, dv⟩ := h3.inv
 ·exact wpAny_loadName_cell ok.kind hk c1 ⟨o, (X.nw (a, o) (by rw [h1]; simp)).1, hd⟩ (h y dv)
theorem zHD {x : Str} {i : Nat} {v : SV} {old : Option SV} {u : Value} {E : Value → Shared → Prop} {Q : Unit → Shared → Prop} (ok : FmOk C F) (R : Rep w F ads st s.heap) (hk : F.sc.names.lookup x = some .cell) (e : lk x st.loc = some (.obj i)) (hi : st.led[i]? = some (.cell old)) (dv : Den F.B ads v u)
  (h : ∀ h', Rep w F ads { st with led := st.led.set i (.cell (some v)) } h' → Q () { s with heap := h' }) : wpAny (model prog w) F.A (storeName F.env x u) Q E s := by
 obtain ⟨m, news, lw, pre, ps, post, a, d, X, h1, h2, h3, h4⟩ := zCq R hi
 obtain ⟨y, e1, e2⟩ := X.loc x _ e
 obtain ⟨p, c1, c2, rfl⟩ := zHu ok hk e1 e2
 rw [h2] at c2; cases c2
 have key : ∀ o ov, ps = [(a, o)] → o.data = .cell ov → wpAny (model prog w) F.A (storeName F.env x u) Q E s := by
  intro o ov eps hd
  rw [eps] at h1
  refine wpAny_storeName_cell ok.kind hk c1 ⟨o, (X.nw (a, o) (by rw [h1]; simp)).1, hd⟩ fun h' hc hs => ?_
  obtain ⟨o', ho', hd'⟩ := hc
  exact h h' (zCL X h1 (h4 _ _ (One.cell hd' dv)) ho' fun b hb o q => (hs.2 b hb).trans q)
 obtain ⟨o, rfl, hd⟩ := h3.inv
 cases old with
 | some _ => obtain ⟨_, hd, _⟩ := hd; exact key _ _ rfl hd
 | none => exact key _ _ rfl hd
end
end rep
noncomputable def zAb (x : Str) : List (Str × NameKind) → Option NameKind
 | [] => none
 | (y, a) :: r => match Fast.sEq x y with
  | true => some a
  | false => zAb x r
theorem zAV (x : Str) : ∀ l : List (Str × NameKind), zAb x l = l.lookup x
 | [] => rfl
 | (y, a) :: r => by
  unfold zAb
  rw [List.lookup_cons, zBX, zAV x r]
  cases Fast.sEq x y <;> rfl
noncomputable abbrev kLoc (o : Option NameKind) : Bool := match o with
 | none => false
 | some k => match k with
  | .local => true
  | _ => false
noncomputable abbrev kCel (o : Option NameKind) : Bool := match o with
 | none => false
 | some k => match k with
  | .cell => true
  | _ => false
noncomputable abbrev kFre (o : Option NameKind) : Bool := match o with
 | none => false
 | some k => match k with
  | .free => true
  | _ => false
theorem zAM {a b : Bool} (h : (a && b) = true) : a = true ∧ b = true := by
 cases a with
 | false => exact Bool.noConfusion h
 | true => exact ⟨rfl, h⟩
theorem zEh {x : Str} {l : List (Str × NameKind)} (h : kLoc (zAb x l) = true) : l.lookup x = some .local := by
 rw [zAV] at h
 cases q : l.lookup x with
 | none => rw [q] at h; exact Bool.noConfusion h
 | some k => rw [q] at h; cases k <;> first | rfl | exact Bool.noConfusion h
theorem zIh {x : Str} {l : List (Str × NameKind)} (h : kCel (zAb x l) = true) : l.lookup x = some .cell := by
 rw [zAV] at h
 cases q : l.lookup x with
 | none => rw [q] at h; exact Bool.noConfusion h
 | some k => rw [q] at h; cases k <;> first | rfl | exact Bool.noConfusion h
theorem zRL {x : Str} {l : List (Str × NameKind)} (h : kFre (zAb x l) = true) : l.lookup x = some .free := by
 rw [zAV] at h
 cases q : l.lookup x with
 | none => rw [q] at h; exact Bool.noConfusion h
 | some k => rw [q] at h; cases k <;> first | rfl | exact Bool.noConfusion h
section
variable {w : World} {C : Cf} {F : Fm} {ads : Wd} {s : Shared} {st : St}
theorem zNx {h : Heap} (R : Rep w F ads st h) : ∃ o, h.get? F.L = some o := by
 obtain ⟨m, news, lw, X⟩ := R
 obtain ⟨oL, es, ep, hL, _⟩ := X.fr.ns
 exact ⟨oL, hL⟩
theorem zIU {h h' : Heap} {a : Addr} {o : Obj} {m : Str → Option Value} {news lw : List (Addr × Obj)} (X : RepX w F ads st h m news lw) (F' : Fr F.h₀ F.L h' m) (N' : News F.h₀ F.L h' ((a, o) :: (news ++ (ads.fz ++ lw)))) (ha : h.objs.size ≤ a) :
  Rep w F (wa ads (⟨[], [(a, o)]⟩ : Wd)) st h' := by
 have efz : (wa ads (⟨[], [(a, o)]⟩ : Wd)).fz = ads.fz ++ [(a, o)] := rfl
 have eads : (wa ads (⟨[], [(a, o)]⟩ : Wd)).ads = ads.ads := List.append_nil _
 have pm : (news ++ (ads.fz ++ [(a, o)] ++ lw)).Perm ((a, o) :: (news ++ (ads.fz ++ lw))) := by
  rw [← List.append_assoc, ← List.append_assoc, List.append_assoc (news ++ ads.fz), List.singleton_append, ← List.append_assoc]
  exact List.perm_middle
 refine ⟨m, news, lw, F', fun p hp => ?_, X.loc.mono, ?_, ?_, X.ups⟩
 ·rw [efz] at hp
  exact N' p (pm.mem_iff.mp hp)
 ·rw [eads]; exact X.led.mono
 ·rw [efz]
  refine (pm.map (·.1)).nodup_iff.mpr (List.nodup_cons.mpr ⟨fun q => ?_, X.nd⟩)
  obtain ⟨p, hp, e⟩ := List.mem_map.mp q
  have h1 := Heap.lt_size (X.nw p hp).1
  have h2 : p.1 = a := e
  rw [h2] at h1
  exact Nat.lt_irrefl _ (Nat.lt_of_lt_of_le h1 ha)
theorem zNv {h h' : Heap} {a : Addr} {o : Obj} (R : Rep w F ads st h) (grow : ∀ b o, h.get? b = some o → h'.get? b = some o) (ho : h'.get? a = some o) (ha : h.objs.size ≤ a) : Rep w F (wa ads (⟨[], [(a, o)]⟩ : Wd)) st h' := by
 obtain ⟨oL, hL⟩ := zNx R
 obtain ⟨m, news, lw, X⟩ := R
 have old : ∀ b o, h.get? b = some o → b ≠ a := fun b o e q => by
  have := Heap.lt_size e
  rw [q] at this
  exact Nat.lt_irrefl _ (Nat.lt_of_lt_of_le this ha)
 refine zIU X ⟨X.fr.ns.at' fun o q => grow _ _ q, fun b o q => grow _ _ (X.fr.keep b o q), X.fr.above⟩ (fun p hp => ?_) ha
 rcases List.mem_cons.mp hp with rfl | hp
 ·refine ⟨ho, fun e => old _ _ hL e.symm, ?_⟩
  cases q : F.h₀.get? a with
  | none => rfl
  | some o' => exact absurd rfl (old _ _ (X.fr.keep _ _ q))
 ·exact ⟨grow _ _ (X.nw p hp).1, (X.nw p hp).2⟩
theorem zRW (ads : Wd) (a : Addr) (o : Obj) : (a, o) ∈ (wa ads (⟨[], [(a, o)]⟩ : Wd)).fz := List.mem_append_right _ (.head _)
theorem zGg {vs : List Value} {ds : List PyData} {a : Addr} {n : Nat} (hl : ds.length ≤ sizeLine) (f : ∀ d ∈ ds, Fits d) (r : RdL F.B ads.fz vs ds) : Den F.B (wa ads (⟨[], [(a, zCU vs n)]⟩ : Wd)) (.dat (.list ds)) (.ref a) :=
 ⟨⟨a, rfl⟩, .list hl f, .list (.inr (zRW ads a _)) rfl rfl (by show RdL F.B (wa ads (⟨[], [(a, zCU vs n)]⟩ : Wd)).fz vs.toArray.toList ds; rw [List.toList_toArray]; exact r.mono fun p hp => List.mem_append_left _ hp)⟩
noncomputable abbrev seqO (o : Option SO) : Option (Bool × List SV) := match o with
 | none => none
 | some x => match x with
  | .list xs => some (true, xs)
  | .tup xs => some (false, xs)
  | _ => none
theorem zAR {α : Type} {c : α} {P : Prop} (h : none = some c) : P := nomatch h
theorem zLZ {o : Option SO} {b : Bool} {xs : List SV} (h : seqO o = some (b, xs)) : (b = true ∧ o = some (.list xs)) ∨ (b = false ∧ o = some (.tup xs)) := by
 cases o with
 | none => exact zAR h
 | some x => cases x <;> first | exact zAR h | (cases h; first | exact .inl ⟨rfl, rfl⟩ | exact .inr ⟨rfl, rfl⟩)
noncomputable def zEL (st : St) (v : SV) : Option (Bool × List SV) := match v with
 | .obj i => seqO st.led[i]?
 | .dat d => match d with
  | .list ds => some (true, ds.map svOf)
  | .tuple ds => some (false, ds.map svOf)
  | _ => none
 | _ => none
noncomputable def SeqAt (h : Heap) (b : Bool) (a : Addr) (vs : List Value) : Prop := match b with
 | true => h.IsList a vs.toArray
 | false => h.IsTuple a vs.toArray
theorem Got.look {B : Heap} {fz : List (Addr × Obj)} {h : Heap} {a : Addr} {o : Obj} (g : Got B fz a o) (l : Look B fz h) : h.get? a = some o := g.elim (l.1 _ _) (l.2 _)
theorem zEr {ds : List PyData} (f : Fits (.list ds)) : ds.length ≤ sizeLine ∧ ∀ d ∈ ds, Fits d := by cases f with | list a b => exact ⟨a, b⟩
theorem zOp {ds : List PyData} (f : Fits (.tuple ds)) : ds.length ≤ sizeLine ∧ ∀ d ∈ ds, Fits d := by cases f with | tuple a b => exact ⟨a, b⟩
theorem zAw {b : Bool} {v : SV} {u : Value} {xs : List SV} (ok : FmOk C F) (R : Rep w F ads st s.heap) (d : Den F.B ads v u) (e : zEL st v = some (b, xs)) : ∃ a vs, u = .ref a ∧ SeqAt s.heap b a vs ∧ DenL F.B ads xs vs := by
 have lk0 := zCM ok R
 cases v <;> first | exact zAR e | skip
 ·rename_i i
  rcases zLZ e with ⟨rfl, hi⟩ | ⟨rfl, hi⟩
  ·obtain ⟨m, news, lw, pre, ps, post, a, dd, X, h1, h2, h3, h4⟩ := zCq R hi
   obtain ⟨p, hp, rfl⟩ := d
   rw [h2] at hp; cases hp
   obtain ⟨vs, n, D, rfl⟩ := h3.inv
   ·exact ⟨a, vs, rfl, ⟨_, (X.nw (a, zCU vs n) (by rw [h1]; simp)).1, rfl, n, rfl⟩, D⟩
  ·obtain ⟨m, news, lw, pre, ps, post, a, dd, X, h1, h2, h3, h4⟩ := zCq R hi
   obtain ⟨p, hp, rfl⟩ := d
   rw [h2] at hp; cases hp
   obtain ⟨vs, n, D, rfl⟩ := h3.inv
   ·exact ⟨a, vs, rfl, ⟨_, (X.nw (a, tupO vs n) (by rw [h1]; simp)).1, rfl, n, rfl⟩, D⟩
 ·rename_i d'
  cases d' <;> first | exact zAR e | skip
  ·cases e
   obtain ⟨⟨a, rfl⟩, f, r⟩ := d
   obtain ⟨f1, f2⟩ := zEr f
   cases r with
   | list g c q r => exact ⟨a, _, rfl, ⟨_, g.look lk0, c, _, by rw [q]⟩, zMz f2 r⟩
  ·cases e
   obtain ⟨⟨a, rfl⟩, f, r⟩ := d
   obtain ⟨f1, f2⟩ := zOp f
   cases r with
   | tuple g c q r => exact ⟨a, _, rfl, ⟨_, g.look lk0, c, _, by rw [q]⟩, zMz f2 r⟩
noncomputable def frz1 : SV → Option PyData
 | .none => some .none
 | .bool b => some (.bool b)
 | .int i => some (.int i)
 | .str s => some (.str s)
 | .sg c _ _ => some (.str (sgS c))
 | .dat d => some d
 | _ => none
noncomputable def frzs : List SV → Option (List PyData)
 | [] => some []
 | x :: xs => match frz1 x with
  | some d => match frzs xs with
   | some ds => some (d :: ds)
   | none => none
  | none => none
theorem zMq (d : PyData) : frz1 (svOf d) = some d := by cases d <;> rfl
theorem zFl {B : Heap} {W : Wd} {x : SV} {v : Value} {d : PyData} (dn : Den B W x v) (e : frz1 x = some d) : Fits d ∧ Rd B W.fz v d := by
 cases x with
 | none => cases e; cases dn; exact ⟨.none, .none⟩
 | bool b => cases e; cases dn; exact ⟨.bool _, .bool _⟩
 | int i => cases e; obtain ⟨t, rfl⟩ := dn; exact ⟨.int _, .int _ _⟩
 | str s => cases e; obtain ⟨⟨t, rfl⟩, l⟩ := dn; exact ⟨.str l, .str _ _⟩
 | sg c es fs => cases e; obtain ⟨⟨t, rfl⟩, _⟩ := dn; exact ⟨.str (by rw [show (sgS c).length = 1 from rfl, sizeLine_eq]; lia), .str _ _⟩
 | dat d => cases e; obtain ⟨_, f, r⟩ := dn; exact ⟨f, r⟩
 | _ => cases e
theorem zFk {B : Heap} {W : Wd} : ∀ {xs : List SV} {vs : List Value} {ds : List PyData}, DenL B W xs vs → frzs xs = some ds → (∀ d ∈ ds, Fits d) ∧ RdL B W.fz vs ds ∧ ds.length = xs.length
 | _, _, _, .nil, e => by cases e; exact ⟨(fun _ h => by cases h), .nil, rfl⟩
 | _, _, _, .cons dx dr, e => by
  unfold frzs at e
  split at e
  ·rename_i d hd
   split at e
   ·rename_i ds hds
    cases e
    obtain ⟨a1, a2⟩ := zFl dx hd
    obtain ⟨b1, b2, b3⟩ := zFk dr hds
    exact ⟨fun y hy => by
     rcases List.mem_cons.mp hy with rfl | hy
     ·exact a1
     ·exact b1 y hy, .cons a2 b2, by simp [b3]⟩
   ·cases e
  ·cases e
noncomputable def zBt (st : St) (v : SV) (k : List PyData → Prop) : Prop := match v with
 | .dat d => match d with
  | .list ds => k ds
  | _ => False
 | .obj i => zLr st.led[i]? fun xs => zBM (frzs xs) fun ds => ds.length ≤ sizeLine ∧ k ds
 | _ => False
theorem zBA {v : SV} {u : Value} {k : List PyData → Prop} (ok : FmOk C F) (R : Rep w F ads st s.heap) (d : Den F.B ads v u) (e : zBt st v k) : ∃ a vs ds, u = .ref a ∧ s.heap.IsList a vs.toArray ∧ (∀ d ∈ ds, Fits d) ∧ RdL F.B ads.fz vs ds ∧ ds.length ≤ sizeLine ∧ k ds := by
 cases v <;> first | exact False.elim e | skip
 rotate_left
 ·rename_i d'
  cases d' <;> first | exact False.elim e | skip
  ·rename_i ds
   obtain ⟨⟨a, rfl⟩, f, r⟩ := d
   obtain ⟨f1, f2⟩ := zEr f
   cases r with
   | list g c q r => exact ⟨a, _, ds, rfl, ⟨_, g.look (zCM ok R), c, _, by rw [q]⟩, f2, r, f1, e⟩
 ·rename_i i
  obtain ⟨xs, hi, e⟩ := zCO e
  obtain ⟨ds, hds, e⟩ := zAK e
  obtain ⟨a, vs, hu, hs, D⟩ := zAw (b := true) (xs := xs) ok R d (congrArg seqO hi)
  obtain ⟨b1, b2, b3⟩ := zFk D hds
  exact ⟨a, vs, ds, hu, hs, b1, b2, e.1, e.2⟩
theorem zCN {B : Heap} {fz : List (Addr × Obj)} : ∀ {vs : List Value} {ds : List PyData}, RdL B fz vs ds → vs.length = ds.length := by
 intro vs
 induction vs with
 | nil => intro ds r; cases r; rfl
 | cons v vs ih => intro ds r; cases r with | cons a r => exact congrArg (· + 1) (ih r)
theorem zKL {B : Heap} {fz : List (Addr × Obj)} : ∀ {vs us : List Value} {ds es : List PyData}, RdL B fz vs ds → RdL B fz us es → RdL B fz (vs ++ us) (ds ++ es) := by
 intro vs
 induction vs with
 | nil => intro us ds es r h; cases r; exact h
 | cons v vs ih => intro us ds es r h; cases r with | cons a r => exact .cons a (ih r h)
theorem zQm {B : Heap} {fz : List (Addr × Obj)} : ∀ {vs : List Value} {ds : List PyData}, RdL B fz vs ds → ∀ i : Nat, (vs[i]? = none ∧ ds[i]? = none) ∨ ∃ v d, vs[i]? = some v ∧ ds[i]? = some d ∧ Rd B fz v d := by
 intro vs
 induction vs with
 | nil => intro ds r i; cases r; exact .inl ⟨rfl, rfl⟩
 | cons v vs ih =>
  intro ds r i
  cases r with
  | cons a r =>
   cases i with
   | zero => exact .inr ⟨_, _, rfl, rfl, a⟩
   | succ i => exact ih r i
theorem zDv {B : Heap} {fz : List (Addr × Obj)} {vs : List Value} {ds : List PyData} (r : RdL B fz vs ds) : ∀ l : List Nat, RdL B fz (l.filterMap (vs[·]?)) (l.filterMap (ds[·]?))
 | [] => .nil
 | i :: l => by
  rcases zQm r i with ⟨a, b⟩ | ⟨v, d, a, b, c⟩
  ·rw [List.filterMap_cons, List.filterMap_cons, a, b]; exact zDv r l
  ·rw [List.filterMap_cons, List.filterMap_cons, a, b]; exact .cons c (zDv r l)
theorem zKt {A : Around} {x y : SV} {a b : Value} {k : List PyData → Prop} {E : Value → Shared → Prop} {Q : Value → Shared → Prop} (ok : FmOk C F) (R : Rep w F ads st s.heap) (dx : Den F.B ads x a) (dy : Den F.B ads y b)
  (h : zBt st x fun ds => zBt st y fun es => ds.length + es.length ≤ sizeLine ∧ k (ds ++ es))
  (hQ : ∀ ds more v s', k ds → Rep w F (wa ads more) st s'.heap → Nx F s s' → Den F.B (wa ads more) (.dat (.list ds)) v → Q v s') : wpAny (model prog w) A (binaryOp .Add a b) Q E s := by
 obtain ⟨l1, vs, ds, rfl, hl1, f1, r1, _, h⟩ := zBA ok R dx h
 obtain ⟨l2, us, es, rfl, hl2, f2, r2, _, hle, h⟩ := zBA ok R dy h
 obtain ⟨m, news, lw, X⟩ := R
 refine add_lists X.fr X.nw hl1 hl2 (fun h' F' N' => ?_) (by rw [zCN r1, zCN r2]; exact hle)
 exact hQ _ ⟨[], [(s.heap.objs.size, zCU (vs ++ us) 0)]⟩ _ _ h (zIU X F' N' (Nat.le_refl _)) (Nx.of_gens rfl rfl rfl) (zGg (by simpa using hle) (fun d hd => (List.mem_append.mp hd).elim (f1 d) (f2 d)) (zKL r1 r2))
theorem zBq {i : Nat} {xs : List SV} {h : Heap} (R : Rep w F ads st h) (hi : st.led[i]? = some (.list xs)) {v : Value} (d : Den F.B ads (.obj i) v) :
  ∃ a vs n, v = .ref a ∧ h.get? a = some (zCU vs n) ∧ DenL F.B ads xs vs ∧ ∀ h' xs' vs' n', h'.get? a = some (zCU vs' n') → (∀ b, b ≠ a → ∀ o, h.get? b = some o → h'.get? b = some o) → DenL F.B ads xs' vs' →
   Rep w F ads { st with led := st.led.set i (.list xs') } h' := by
 obtain ⟨m, news, lw, X⟩ := R
 obtain ⟨pre, ps, post, a, dd, h1, h2, h3, h4⟩ := X.led.at hi
 obtain ⟨p, hp, rfl⟩ := d
 rw [h2] at hp; cases hp
 obtain ⟨vs, n, D, rfl⟩ := h3.inv
 ·exact ⟨a, vs, n, rfl, (X.nw (a, zCU vs n) (by rw [h1]; simp)).1, D, fun h' xs' vs' n' ho hs D' => zCL X h1 (h4 _ _ (One.list (n := n') D')) ho hs⟩
noncomputable def idxP (xs : List SV) (i : Int) (x : SV) : Prop := ∃ j, seqIndex? i xs.length = some j ∧ xs[j]? = some x ∧ -4611686018427387904 ≤ i ∧ i < 4611686018427387904
theorem zMb {o i : Expr} {v x : SV} {u : Value} {b : Bool} {xs : List SV} {k : Int} {t : Tok} {A : Around} {E : Value → Shared → Prop} {Q : Value → Shared → Prop} (hs : ∀ l, subscripted i false (.ref l) (.int k t) = operate [.ref l, .int k t] (getItem (.ref l) (.int k t))) (ok : FmOk C F) (R : Rep w F ads st s.heap) (d : Den F.B ads v u)
  (e : zEL st v = some (b, xs)) (h : idxP xs k x) (hQ : ∀ y, Den F.B ads x y → Q y s) : wpAny (model prog w) A (subscriptTail o i u (.int k t)) Q E s := by
 obtain ⟨a, vs, rfl, hsq, D⟩ := zAw ok R d e
 obtain ⟨j, hj, hx, h1, h2⟩ := h
 obtain ⟨y, hy, dy⟩ := D.get hx
 rw [D.length] at hj
 cases b with
 | true =>
  have hl : s.heap.IsList a vs.toArray := hsq
  refine tail_any hl.typeIs slot_list_getitem.lookup ?_ (hs a)
  unfold seqIndex? at hj
  by_cases hk : k < 0
  ·rw [if_pos hk] at hj
   dsimp only at hj
   split at hj
   ·rename_i hc
    simp only [Bool.and_eq_true, decide_eq_true_eq] at hc
    cases hj
    exact wpAny_getItem_list_neg hl hk (by simp; lia) (by lia) (by simpa using hy) (hQ y dy)
   ·cases hj
  ·rw [if_neg hk] at hj
   dsimp only at hj
   split at hj
   ·cases hj
    exact wpAny_getItem_list hl (by lia) (by lia) (by simpa using hy) (hQ y dy)
   ·cases hj
 | false =>
  have hl : IsTup s.heap a vs.toArray := hsq
  exact tail_any hl.typeIs slot_tuple_getitem.lookup (PyProof.Rows.getItem_tuple hl (by lia) (by lia) (by simpa using hj) (by simpa using hy) (hQ y dy)) (hs a)
noncomputable def slD (ds : List PyData) (lo hi : Option Int) : List PyData := (sliceRange (sliceBounds lo hi none ds.length).1 (sliceBounds lo hi none ds.length).2.1 (sliceBounds lo hi none ds.length).2.2).filterMap (ds[·]?)
theorem zQV {ds : List PyData} {lo hi : Option Int} {d : PyData} (h : d ∈ slD ds lo hi) : d ∈ ds := by
 unfold slD at h
 obtain ⟨i, _, hi⟩ := List.mem_filterMap.mp h
 exact List.mem_of_getElem? hi
noncomputable def PartV : Option Int → Value → Prop
 | none, v => v = .none
 | some i, v => ∃ t, v = .int i t
theorem PartV.is {l : Option Int} {v : Value} (p : PartV l v) : IsPart v l := by
 cases l with
 | none => cases p; exact .none
 | some i => obtain ⟨t, rfl⟩ := p; exact .int _ _
theorem zLV {o : Expr} {lo hi : Option Expr} {q : Pos} {ds : List PyData} {v vl vu : Value} {l u : Option Int} {A : Around} {E : Value → Shared → Prop} {Q : Value → Shared → Prop} (ok : FmOk C F) (R : Rep w F ads st s.heap) (d : Den F.B ads (.dat (.list ds)) v) (pl : PartV l vl) (pu : PartV u vu)
  (hQ : ∀ more r s', Rep w F (wa ads more) st s'.heap → Nx F s s' → Den F.B (wa ads more) (.dat (.list (slD ds l u))) r → Q r s') :
  wpAny (model prog w) A (subscriptTail o (.Slice lo hi none q) v (.ref s.heap.objs.size)) Q E { s with heap := s.heap.push { cls := .type "slice", data := .fields #[vl, vu, .none] } } := by
 obtain ⟨⟨a, rfl⟩, f, r⟩ := d
 obtain ⟨f1, f2⟩ := zEr f
 cases r with
 | list g c e r =>
  rename_i ob vs n
  have hl0 : s.heap.IsList a vs := ⟨_, g.look (zCM ok R), c, _, e⟩
  have hl : (s.heap.push { cls := .type "slice", data := .fields #[vl, vu, .none] }).IsList a vs := hl0.push _
  have len : vs.size = ds.length := by rw [← zCN r]; simp
  refine tail_any (s := { s with heap := s.heap.push { cls := .type "slice", data := .fields #[vl, vu, .none] } }) hl.typeIs slot_list_getitem.lookup
   (wpAny_getItem_list_slice hl (Heap.IsSliceOf.new ..) pl.is pu.is .none (by simp) ?_ (by rw [len]; exact f1)) (by with_unfolding_all rfl)
  have e1 : (slicePick vs l u none) = (((sliceRange (sliceBounds l u none ds.length).1 (sliceBounds l u none ds.length).2.1 (sliceBounds l u none ds.length).2.2).filterMap (vs.toList[·]?))).toArray := by
   unfold slicePick; rw [len]; congr 1; congr 1; funext i; simp
  rw [e1]
  refine hQ ⟨[], [((s.heap.push { cls := .type "slice", data := .fields #[vl, vu, .none] }).objs.size, _)]⟩ _ _ (zNv R (fun b o q => Heap.get?_push_of_some _ (Heap.get?_push_of_some _ q)) (Heap.get?_push_size _ rfl) (by rw [Heap.size_push]; lia)) (Nx.of_gens rfl rfl rfl) ?_
  refine zGg ?_ (fun d hd => f2 d (zQV hd)) (zDv r _)
  have := slicePick_size_le vs l u none
  rw [e1, len] at this
  have e2 := zCN (zDv r (sliceRange (sliceBounds l u none ds.length).1 (sliceBounds l u none ds.length).2.1 (sliceBounds l u none ds.length).2.2))
  have e3 : (slD ds l u).length ≤ ds.length := by
   show ((sliceRange (sliceBounds l u none ds.length).1 (sliceBounds l u none ds.length).2.1 (sliceBounds l u none ds.length).2.2).filterMap (ds[·]?)).length ≤ _
   rw [← e2]; simpa using this
  lia
noncomputable abbrev zOz {α : Type} (a : Option α) (b : Option (List α)) : Option (List α) := match a with
 | none => none
 | some x => match b with
  | none => none
  | some y => some (x :: y)
theorem zKl {α : Type} {a : Option α} {b : Option (List α)} {c : List α} (h : zOz a b = some c) : ∃ x y, a = some x ∧ b = some y ∧ c = x :: y := by
 cases a with
 | none => exact zAR h
 | some x => cases b with
  | none => exact zAR h
  | some y => exact ⟨x, y, rfl, rfl, (Option.some.inj h).symm⟩
noncomputable def frzD : Nat → List SO → SV → Option PyData
 | 0, _, _ => none
 | n + 1, led, v => match v with
  | .obj i => match seqO led[i]? with
   | none => none
   | some bx => match bx with
    | (b, xs) => (xs.foldr (fun x acc => zOz (frzD n led x) acc) (some [])).map (match b with | true => .list | false => .tuple)
  | v => frz1 v
theorem zDT (ok : FmOk C F) (R : Rep w F ads st s.heap) : ∀ (n : Nat) (v : SV) (u : Value) (d : PyData), Den F.B ads v u → frzD n st.led v = some d → ∃ as, Reads s.heap u d as
 | 0, _, _, _, _, h => by cases h
 | n + 1, v, u, d, dn, h => by
  have all : ∀ (xs : List SV) (vs : List Value) (ds : List PyData), DenL F.B ads xs vs → xs.foldr (fun x acc => zOz (frzD n st.led x) acc) (some []) = some ds → ∃ as, ReadsAll s.heap vs ds as := by
   intro xs vs ds D
   induction D generalizing ds with
   | nil => intro h; cases h; exact ⟨_, .nil⟩
   | cons dx _ ih =>
    intro h
    obtain ⟨d', ds', hd, hds, rfl⟩ := zKl h
    obtain ⟨a1, r1⟩ := zDT ok R n _ _ _ dx hd
    obtain ⟨a2, r2⟩ := ih _ hds
    exact ⟨_, .cons r1 r2⟩
  have lk0 := zCM ok R
  have plain : frz1 v = some d → ∃ as, Reads s.heap u d as := fun h => (zFl dn h).2.reads lk0
  cases v <;> first | exact plain h | skip
  rename_i i
  replace h : (match seqO st.led[i]? with
   | none => none
   | some bx => match bx with
    | (b, xs) => (xs.foldr (fun x acc => zOz (frzD n st.led x) acc) (some [])).map (match b with | true => PyData.list | false => PyData.tuple)) = some d := h
  cases hi : seqO st.led[i]? with
  | none => rw [hi] at h; exact zAR h
  | some bx =>
   rw [hi] at h
   obtain ⟨b, xs⟩ := bx
   obtain ⟨ds, g, rfl⟩ := Option.map_eq_some_iff.mp h
   obtain ⟨a, vs, rfl, hs, D⟩ := zAw ok R dn hi
   obtain ⟨as, r⟩ := all xs vs ds D g
   cases b with
   | true =>
    obtain ⟨o, h1, h2, m, h3⟩ := hs
    exact ⟨_, .list h1 h2 h3 (by simpa using r)⟩
   | false =>
    obtain ⟨o, h1, h2, m, h3⟩ := hs
    exact ⟨_, .tuple h1 h2 h3 (by simpa using r)⟩
noncomputable def eqD (n : Nat) (st : St) (x y : SV) (k : Bool → Prop) : Prop := zBM (frzD 4 st.led x) fun d => zBM (frzD 4 st.led y) fun e => 8 ≤ n ∧ d.canLay0 = true ∧ e.canLay0 = true ∧ min d.depth e.depth ≤ 60 ∧ k (d.eqv e)
theorem zHi {n : Nat} {ne : Bool} {x y : SV} {a b : Value} {k : Bool → Prop} {A : Around} {E : Value → Shared → Prop} {Q : Value → Shared → Prop} (ok : FmOk C F) (hu : A.units + 8 * (n + 1) < cLine) (R : Rep w F ads st s.heap) (dx : Den F.B ads x a) (dy : Den F.B ads y b) (h : eqD n st x y k)
  (hQ : ∀ c, k c → Q (.bool (if ne then !c else c)) s) : wpAny (model prog w) A (compareOp (if ne then .NotEq else .Eq) a b) Q E s := by
 obtain ⟨d, hd, h⟩ := zAK h
 obtain ⟨e, he, h1, h2, h3, h4, h5⟩ := zAK h
 obtain ⟨as, ra⟩ := zDT ok R 4 _ _ _ dx hd
 obtain ⟨bs, rb⟩ := zDT ok R 4 _ _ _ dy he
 cases ne with
 | true => exact SeqAt.compareNe_reads ra rb h2 h3 (by lia) (hQ _ h5)
 | false => exact SeqAt.compareEq_reads ra rb h2 h3 (by lia) (hQ _ h5)
theorem zML {A : Around} {v : SV} {u : Value} {b : Bool} {xs : List SV} {E : Value → Shared → Prop} {Q : Value → Shared → Prop} (ok : FmOk C F) (R : Rep w F ads st s.heap) (d : Den F.B ads v u) (e : zEL st v = some (b, xs)) (hl : xs.length ≤ sizeLine)
  (hQ : ∀ t t', Q (.int xs.length t) { s with toks := t' }) : wpAny (model prog w) A (call (.builtin "len") [u]) Q E s := by
 obtain ⟨a, vs, rfl, hsq, D⟩ := zAw ok R d e
 have e1 : (vs.toArray.size : Int) = xs.length := by rw [D.length]; simp
 rw [sizeLine_eq] at hl
 cases b with
 | true => exact Calls.call_len_list hsq (by rw [e1]; lia) (by rw [e1]; exact hQ _ _)
 | false => exact PyProof.Rows.len_tuple hsq (by rw [e1]; lia) (by rw [e1]; exact hQ _ _)
theorem zDi {A : Around} {i : Nat} {xs : List SV} {x : SV} {u y : Value} {E : Value → Shared → Prop} {Q : Value → Shared → Prop} (R : Rep w F ads st s.heap) (d : Den F.B ads (.obj i) u) (hi : st.led[i]? = some (.list xs)) (dx : Den F.B ads x y) (hl : xs.length ≤ sizeLine)
  (hQ : ∀ h', Rep w F ads { st with led := st.led.set i (.list (xs ++ [x])) } h' → Q .none { s with heap := h' }) : wpAny (model prog w) A (call (.builtin "list.append") [u, y]) Q E s := by
 obtain ⟨a, vs, n, rfl, ho, D, upd⟩ := zBq R hi d
 have hlv : vs.toArray.size ≤ sizeLine := by have := D.length; simp; lia
 refine wpAny_call_entry slot_list_append (T := "list") ⟨_, ho, rfl⟩ entry_list_append ?_ (args_list_append _ _)
 show wpAny _ _ (updateSeq a (·.push y) >>= fun _ => ret .none) _ _ s
 refine wpAny_bind ?_
 refine wpAny_updateSeq ho rfl (wpAny_pure ⟨.none, rfl, hQ _ ?_⟩) hlv (by simp; simpa using hlv)
 have ho' := Heap.get?_update_self (Obj.mapSeq (·.push y)) ho rfl
 exact upd _ (xs ++ [x]) (vs ++ [y]) n.succ (by rw [ho']; simp [Obj.mapSeq]) (fun b hb o q => (Heap.get?_update_other _ _ (Ne.symm hb)).trans q) (D.append (.cons dx .nil))
theorem DenL.set {B : Heap} {G : Wd} {x : SV} {v : Value} (d : Den B G x v) : ∀ {xs : List SV} {vs : List Value} (n : Nat), DenL B G xs vs → DenL B G (xs.set n x) (vs.set n v)
 | _, _, _, .nil => .nil
 | _, _, 0, .cons _ r => .cons d r
 | _, _, n + 1, .cons e r => .cons e (DenL.set d n r)
theorem zKI {A : Around} {i : Nat} {xs : List SV} {x : SV} {u y : Value} {k : Int} {t : Tok} {E : Value → Shared → Prop} {Q : Unit → Shared → Prop} (R : Rep w F ads st s.heap) (d : Den F.B ads (.obj i) u) (hi : st.led[i]? = some (.list xs)) (h0 : 0 ≤ k) (hn : k < (xs.length : Int)) (hl : xs.length ≤ sizeLine) (dx : Den F.B ads x y)
  (hQ : ∀ h', Rep w F ads { st with led := st.led.set i (.list (xs.set k.toNat x)) } h' → Q () { s with heap := h' }) : wpAny (model prog w) A (setItem u (.int k t) y) Q E s := by
 obtain ⟨l, vs, n, rfl, ho, D, upd⟩ := zBq R hi d
 have hL : s.heap.IsList l vs.toArray := ⟨_, ho, rfl, n, rfl⟩
 have eD := D.length
 have hfit : k < 2 ^ 63 := by rw [sizeLine_eq] at hl; lia
 unfold setItem
 try with_reducible refine wpAny_holding ?_
 first | refine wpAny_bind (wpAny_pure ?_) | skip
 refine wpAny_bind (wpAny_sequenceKey hL.typeIs (by decide) ?_)
 refine wpAny_bind (wpAny_callSpecial?_slot (name := Str.ofString "__setitem__") hL.typeIs slot_list_setitem
  (wpAny_call_entry slot_list_setitem hL.typeIs entry_list_setitem ?_ (args_list_setitem _ _ _)))
 show wpAny _ _ (Builtin.List.listSubscript? (.int k t) >>= _) _ _ s
 refine wpAny_bind (wpAny_listSubscript_int (fitsIndex_of h0 hfit) ?_)
 clear hfit
 obtain ⟨j, rfl⟩ := Int.eq_ofNat_of_zero_le h0
 have hj : j < vs.toArray.size := by simp; lia
 have hx' : vs.toArray[j]? = some vs.toArray[j] := Array.getElem?_eq_getElem hj
 show wpAny _ _ ((seqItemAt l j >>= fun r => pure (r.map (j, ·))) >>= _) _ _ s
 refine wpAny_bind (wpAny_bind (wpAny_seqItemAt ho rfl (wpAny_pure ?_)))
 rw [hx']
 show wpAny _ _ (setSeqItemAt l j y >>= _) _ _ s
 refine wpAny_bind (wpAny_setSeqItemAt ho rfl ?_)
 have fin : Q () { s with heap := s.heap.update l (Obj.mapSeq (·.setIfInBounds j y)) } := by
  have ho' := Heap.get?_update_self (Obj.mapSeq (·.setIfInBounds j y)) ho rfl
  refine hQ _ (upd _ (xs.set j x) (vs.set j y) n (by rw [ho']; simp [Obj.mapSeq]) (fun b hb o q => (Heap.get?_update_other _ _ (Ne.symm hb)).trans q) (DenL.set dx j D))
 first
  | exact wpAny_bind (wpAny_pure (wpAny_pure ⟨.none, rfl, wpAny_pure fin⟩))
  | exact wpAny_pure ⟨.none, rfl, wpAny_pure fin⟩
theorem zFn {α : Type} : ∀ (us : List α) (y : α), (us ++ [y]).eraseIdx us.length = us
 | [], _ => rfl
 | u :: us, y => congrArg (List.cons u) (zFn us y)
theorem zLo {A : Around} {i : Nat} {xs : List SV} {x : SV} {u : Value} {E : Value → Shared → Prop} {Q : Value → Shared → Prop} (R : Rep w F ads st s.heap) (d : Den F.B ads (.obj i) u) (hi : st.led[i]? = some (.list (xs ++ [x]))) (hl : xs.length < sizeLine)
  (hQ : ∀ h' y, Rep w F ads { st with led := st.led.set i (.list xs) } h' → Den F.B ads x y → Q y { s with heap := h' }) : wpAny (model prog w) A (call (.builtin "list.pop") [u]) Q E s := by
 obtain ⟨a, vs, n, rfl, ho, D, upd⟩ := zBq R hi d
 obtain ⟨us, y, rfl, D1, dy⟩ : ∃ us y, vs = us ++ [y] ∧ DenL F.B ads xs us ∧ Den F.B ads x y := by
  clear hi upd ho hl hQ
  generalize hz : xs ++ [x] = zs at D
  induction D generalizing xs with
  | nil => cases xs <;> cases hz
  | cons dx dr ih =>
   cases xs with
   | nil =>
    cases hz
    cases dr
    exact ⟨[], _, rfl, .nil, dx⟩
   | cons z zs =>
    cases hz
    obtain ⟨us, y, rfl, a, b⟩ := ih rfl
    exact ⟨_ :: us, y, rfl, .cons dx a, b⟩
 have hlv : (us ++ [y]).toArray.size ≤ sizeLine := by have := D1.length; simp; lia
 have hsz : (us ++ [y]).toArray.size - 1 = us.length := by simp
 refine call_meets PySem.F.slot_list_pop (T := "list") ⟨_, ho, rfl⟩ PySem.F.entry_list_pop (PySem.F.args_list_pop_1 _) (MeetsSeq.list_pop_last a (us ++ [y]).toArray n y (by rw [hsz]; simp) hlv) ⟨ho, ?_⟩
 refine hQ _ y (upd _ xs us (n + 1) ?_ (fun b hb o q => (Heap.get?_update_other _ _ (Ne.symm hb)).trans q) D1) dy
 rw [Heap.get?_update_self (Obj.mapSeq fun xs => xs.eraseIdxIfInBounds ((us ++ [y]).toArray.size - 1)) ho rfl, hsz]
 have e1 := zFn us y
 simp [Obj.mapSeq, Array.eraseIdxIfInBounds, e1]
end
mutual
/-- a value taken as data that never changes again -/
inductive Frz (led : List SO) : SV → PyData → Prop
 | none : Frz led .none .none
 | bool (b) : Frz led (.bool b) (.bool b)
 | int (i) : Frz led (.int i) (.int i)
 | str (s) : Frz led (.str s) (.str s)
 | sg (c es fs) : Frz led (.sg c es fs) (.str (sgS c))
 | dat (d) : Frz led (.dat d) d
 | list {i xs ds} : led[i]? = some (.list xs) → xs.length ≤ sizeLine → FrzL led xs ds → Frz led (.obj i) (.list ds)
 | tup {i xs ds} : led[i]? = some (.tup xs) → xs.length ≤ sizeLine → FrzL led xs ds → Frz led (.obj i) (.tuple ds)
inductive FrzL (led : List SO) : List SV → List PyData → Prop
 | nil : FrzL led [] []
 | cons {x d xs ds} : Frz led x d → FrzL led xs ds → FrzL led (x :: xs) (d :: ds)
end
section
variable {w : World} {C : Cf} {F : Fm} {ads : Wd} {s : Shared} {st : St}
theorem FrzL.length {led : List SO} : ∀ {xs : List SV} {ds : List PyData}, FrzL led xs ds → ds.length = xs.length := by
 intro xs
 induction xs with
 | nil => intro ds r; cases r; rfl
 | cons x xs ih => intro ds r; cases r with | cons _ r => exact congrArg (· + 1) (ih r)
theorem LedR.atI {P : Params} {B : Heap} {G : Wd} : ∀ {ads : List (Addr × Addr)} {led : List SO} {news : List (Addr × Obj)} {i : Nat} {so : SO}, LedR P B G ads led news → led[i]? = some so → ∃ a d ps, ads[i]? = some (a, d) ∧ One P B G so a d ps ∧ ∀ p ∈ ps, p ∈ news := by
 intro ads led news i so r h
 obtain ⟨pre, ps, post, a, d, h1, h2, h3, _⟩ := r.at h
 exact ⟨a, d, ps, h2, h3, fun p hp => by rw [h1]; exact List.mem_append_left _ (List.mem_append_right _ hp)⟩
noncomputable def zGm (P : Params) (B : Heap) (G : Wd) (led : List SO) (S : List (Addr × Obj)) : Prop := ∀ (i : Nat) (so : SO), led[i]? = some so → so = .gone ∨ ∃ a d ps, G.ads[i]? = some (a, d) ∧ One P B G so a d ps ∧ ∀ p ∈ ps, p ∈ S
mutual
theorem Frz.rdAt {P : Params} {B : Heap} {G : Wd} {led : List SO} {S : List (Addr × Obj)} (X : zGm P B G led S) : ∀ {x : SV} {d : PyData} {v : Value}, Frz led x d → Den B G x v → Fits d ∧ Rd B (S ++ G.fz) v d
 | _, _, _, .none, e => by cases e; exact ⟨.none, .none⟩
 | _, _, _, .bool b, e => by cases e; exact ⟨.bool _, .bool _⟩
 | _, _, _, .int i, e => by obtain ⟨t, rfl⟩ := e; exact ⟨.int _, .int _ _⟩
 | _, _, _, .str s, e => by obtain ⟨⟨t, rfl⟩, l⟩ := e; exact ⟨.str l, .str _ _⟩
 | _, _, _, .sg c es fs, e => by obtain ⟨⟨t, rfl⟩, _⟩ := e; exact ⟨.str (by rw [zBU, sizeLine_eq]; lia), .str _ _⟩
 | _, _, _, .dat d, e => by
  obtain ⟨_, f, r⟩ := e
  exact ⟨f, r.mono fun p hp => List.mem_append_right _ hp⟩
 | _, _, _, .list hi hl fl, e => by
  rcases X _ _ hi with q | ⟨a, dd, ps, h2, h3, h4⟩
  ·cases q
  obtain ⟨p, hp, rfl⟩ := e
  rw [h2] at hp; cases hp
  obtain ⟨vs, n, D, rfl⟩ := h3.inv
  ·obtain ⟨f, r⟩ := FrzL.rdAt X fl D
   exact ⟨.list (by rw [fl.length]; exact hl) f, .list (.inr (List.mem_append_left _ (h4 _ (.head _)))) rfl rfl (by simpa using r)⟩
 | _, _, _, .tup hi hl fl, e => by
  rcases X _ _ hi with q | ⟨a, dd, ps, h2, h3, h4⟩
  ·cases q
  obtain ⟨p, hp, rfl⟩ := e
  rw [h2] at hp; cases hp
  obtain ⟨vs, n, D, rfl⟩ := h3.inv
  ·obtain ⟨f, r⟩ := FrzL.rdAt X fl D
   exact ⟨.tuple (by rw [fl.length]; exact hl) f, .tuple (.inr (List.mem_append_left _ (h4 _ (.head _)))) rfl rfl (by simpa using r)⟩
theorem FrzL.rdAt {P : Params} {B : Heap} {G : Wd} {led : List SO} {S : List (Addr × Obj)} (X : zGm P B G led S) : ∀ {xs : List SV} {ds : List PyData} {vs : List Value}, FrzL led xs ds → DenL B G xs vs → (∀ d ∈ ds, Fits d) ∧ RdL B (S ++ G.fz) vs ds
 | _, _, _, .nil, .nil => ⟨(fun _ h => by cases h), .nil⟩
 | _, _, _, .cons f fl, .cons d dl => by
  obtain ⟨a1, r⟩ := Frz.rdAt X f d
  obtain ⟨b1, q⟩ := FrzL.rdAt X fl dl
  exact ⟨fun x hx => by
   rcases List.mem_cons.mp hx with rfl | hx
   ·exact a1
   ·exact b1 x hx, .cons r q⟩
end
noncomputable def zAe (x : SV) : Prop := match x with
 | .obj _ => False
 | _ => True
end
section
variable {w : World} {C : Cf} {F : Fm} {s : Shared}
noncomputable def mask (n : Nat) (led : List SO) : List SO := List.replicate n .gone ++ led.drop n
inductive SvT (n : Nat) (led : List SO) : SV → SV → Prop
 | keep {i : Nat} : i < n → SvT n led (.obj i) (.obj i)
 | same {x : SV} : zAe x → SvT n led x x
 | un (c es fs) : SvT n led (.sg c es fs) (.str (sgS c))
 | frz {i : Nat} {d : PyData} : Frz (mask n led) (.obj i) d → SvT n led (.obj i) (svOf d)
inductive SvsT (n : Nat) (led : List SO) : List SV → List SV → Prop
 | nil : SvsT n led [] []
 | cons {x y : SV} {xs ys : List SV} : SvT n led x y → SvsT n led xs ys → SvsT n led (x :: xs) (y :: ys)
inductive FldT (n : Nat) (led : List SO) : List (Str × SV) → List (Str × SV) → Prop
 | nil : FldT n led [] []
 | cons {a : Str} {x y : SV} {xs ys : List (Str × SV)} : SvT n led x y → FldT n led xs ys → FldT n led ((a, x) :: xs) ((a, y) :: ys)
inductive SoT (n : Nat) (led : List SO) : SO → SO → Prop
 | inst {c : Addr} {fs gs : List (Str × SV)} : FldT n led fs gs → SoT n led (.inst c fs) (.inst c gs)
 | raw {o : Obj} : SoT n led (.raw o) (.raw o)
 | list {xs ys : List SV} : SvsT n led xs ys → SoT n led (.list xs) (.list ys)
 | tup {xs ys : List SV} : SvsT n led xs ys → SoT n led (.tup xs) (.tup ys)
 | cell {x y : SV} : SvT n led x y → SoT n led (.cell (some x)) (.cell (some y))
 | cell0 : SoT n led (.cell none) (.cell none)
 | dic {fs gs : List (Str × SV)} : FldT n led fs gs → SoT n led (.dic fs) (.dic gs)
 | it {b : Bool} {x y : SV} {j : Nat} : SvT n led x y → SoT n led (.it b x j) (.it b y j)
 | itr {m j : Nat} : SoT n led (.itr m j) (.itr m j)
 | rng {m : Nat} : SoT n led (.rng m) (.rng m)
 | gone : SoT n led .gone .gone
 | tab {p : Addr} : SoT n led (.tab p) (.tab p)
 | drop {x : SO} : SoT n led x .gone
inductive SosT (n : Nat) (led : List SO) : List SO → List SO → Prop
 | nil : SosT n led [] []
 | cons {x y : SO} {xs ys : List SO} : SoT n led x y → SosT n led xs ys → SosT n led (x :: xs) (y :: ys)
structure Trim (n : Nat) (st st' : St) : Prop where
 loc : ∀ x y, lk x st'.loc = some y → ∃ z, lk x st.loc = some z ∧ SvT n st.led z y
 led : SosT n st.led (st.led.take n) st'.led
theorem zHN {P : Params} {B : Heap} {G : Wd} : ∀ {a1 a2 : List (Addr × Addr)} {l1 l2 : List SO} {news : List (Addr × Obj)}, l1.length = a1.length → LedR P B G (a1 ++ a2) (l1 ++ l2) news → ∃ n1 n2, news = n1 ++ n2 ∧ LedR P B G a1 l1 n1 ∧ LedR P B G a2 l2 n2 := by
 intro a1 a2 l1 l2 news
 induction a1 generalizing l1 news with
 | nil =>
  intro h r
  cases l1 with
  | nil => exact ⟨[], news, rfl, .nil, r⟩
  | cons => cases h
 | cons p a1 ih =>
  intro h r
  cases l1 with
  | nil => cases h
  | cons so l1 =>
   cases r with
   | cons one r =>
    obtain ⟨n1, n2, e, r1, r2⟩ := ih (Nat.succ.inj h) r
    exact ⟨_ ++ n1, n2, by rw [e, List.append_assoc], .cons one r1, r2⟩
theorem zCb {P : Params} {B : Heap} {W more : Wd} {led : List SO} {S : List (Addr × Obj)} (X : zGm P B (wa W more) (mask W.ads.length led) S) {x y : SV} {v : Value} (t : SvT W.ads.length led x y) (d : Den B (wa W more) x v) : Den B (wa W (⟨[], more.fz ++ S⟩ : Wd)) y v := by
 have sub : ∀ p ∈ (wa W more).fz, p ∈ (wa W (⟨[], more.fz ++ S⟩ : Wd)).fz := fun p hp => by
  rw [Wd.fz_append] at hp ⊢
  rcases List.mem_append.mp hp with q | q
  ·exact List.mem_append_left _ q
  ·exact List.mem_append_right _ (List.mem_append_left _ q)
 cases t with
 | keep hi =>
  obtain ⟨p, hp, e⟩ := d
  refine ⟨p, ?_, e⟩
  rw [Wd.ads_append] at hp ⊢
  rw [List.getElem?_append_left hi] at hp ⊢
  exact hp
 | same hp =>
  cases x with
  | obj i => exact hp.elim
  | dat dd =>
   obtain ⟨e, f, r⟩ := d
   exact ⟨e, f, r.mono sub⟩
  | _ => exact d
 | un c es fs => exact ⟨d.1, by rw [zBU, sizeLine_eq]; lia⟩
 | frz f =>
  obtain ⟨ft, r⟩ := Frz.rdAt X f d
  refine zPq ft (r.mono fun p hp => ?_)
  rw [Wd.fz_append]
  show p ∈ W.fz ++ (more.fz ++ S)
  rcases List.mem_append.mp hp with q | q
  ·exact List.mem_append_right _ (List.mem_append_right _ q)
  ·exact sub p q
theorem zJA {P : Params} {B : Heap} {W more : Wd} {led : List SO} {S : List (Addr × Obj)} (X : zGm P B (wa W more) (mask W.ads.length led) S) : ∀ {xs ys : List SV} {vs : List Value}, SvsT W.ads.length led xs ys → DenL B (wa W more) xs vs → DenL B (wa W (⟨[], more.fz ++ S⟩ : Wd)) ys vs := by
 intro xs ys vs t
 induction t generalizing vs with
 | nil => intro d; cases d; exact .nil
 | cons t _ ih => intro d; cases d with | cons d dr => exact .cons (zCb X t d) (ih dr)
theorem zOo {P : Params} {B : Heap} {W more : Wd} {led : List SO} {S : List (Addr × Obj)} (X : zGm P B (wa W more) (mask W.ads.length led) S) : ∀ {fs gs : List (Str × SV)} {es : List DictEntry}, FldT W.ads.length led fs gs → EntR P B (wa W more) es fs → EntR P B (wa W (⟨[], more.fz ++ S⟩ : Wd)) es gs := by
 intro fs gs es t
 induction t generalizing es with
 | nil => intro d; cases d; exact .nil
 | cons t _ ih => intro d; cases d with | cons d dr => exact .cons (zCb X t d) (ih dr)
theorem zRa {P : Params} {B : Heap} {W more : Wd} {led : List SO} {S : List (Addr × Obj)} (X : zGm P B (wa W more) (mask W.ads.length led) S) : ∀ {fs gs : List (Str × SV)} {kvs : List (Str × Value)}, FldT W.ads.length led fs gs → KvR B (wa W more) fs kvs → KvR B (wa W (⟨[], more.fz ++ S⟩ : Wd)) gs kvs := by
 intro fs gs kvs t
 induction t generalizing kvs with
 | nil => intro d; cases d; exact .nil
 | cons t _ ih => intro d; cases d with | cons d dr => exact .cons (zCb X t d) (ih dr)
theorem zQS {P : Params} {B : Heap} {W more : Wd} {led : List SO} {S : List (Addr × Obj)} (X : zGm P B (wa W more) (mask W.ads.length led) S) {x y : SO} {a d : Addr} {ps : List (Addr × Obj)} (t : SoT W.ads.length led x y) (o : One P B (wa W more) x a d ps) : ∃ qs, List.Sublist qs ps ∧ One P B (wa W (⟨[], more.fz ++ S⟩ : Wd)) y a d qs := by
 cases t with
 | inst f => obtain ⟨_, _, e, rfl⟩ := o.inv; exact ⟨_, List.Sublist.refl _, .inst (zOo X f e)⟩
 | raw => obtain rfl := o.inv; exact ⟨_, List.Sublist.refl _, .raw⟩
 | list f => obtain ⟨_, _, e, rfl⟩ := o.inv; exact ⟨_, List.Sublist.refl _, .list (zJA X f e)⟩
 | tup f => obtain ⟨_, _, e, rfl⟩ := o.inv; exact ⟨_, List.Sublist.refl _, .tup (zJA X f e)⟩
 | cell f => obtain ⟨_, rfl, _, e, d⟩ := o.inv; exact ⟨_, List.Sublist.refl _, .cell e (zCb X f d)⟩
 | cell0 => obtain ⟨_, rfl, e⟩ := o.inv; exact ⟨_, List.Sublist.refl _, .cell0 e⟩
 | dic f => obtain ⟨_, _, e, g, rfl⟩ := o.inv; exact ⟨_, List.Sublist.refl _, .dic e (zRa X f g)⟩
 | it f => obtain ⟨_, _, e, d, rfl⟩ := o.inv; exact ⟨_, List.Sublist.refl _, .it e (zCb X f d)⟩
 | itr => obtain rfl := o.inv; exact ⟨_, List.Sublist.refl _, .itr⟩
 | rng => obtain ⟨_, _, _, e, rfl⟩ := o.inv; exact ⟨_, List.Sublist.refl _, .rng e⟩
 | tab => exact ⟨_, List.Sublist.refl _, by obtain ⟨rfl, _, e, rfl⟩ := o.inv; exact .tab e⟩
 | gone => obtain rfl := o.inv; exact ⟨_, List.Sublist.refl _, .gone⟩
 | drop => exact ⟨[], List.nil_sublist _, .gone⟩
theorem zNb {P : Params} {B : Heap} {W more : Wd} {led : List SO} {S : List (Addr × Obj)} (X : zGm P B (wa W more) (mask W.ads.length led) S) : ∀ {xs ys : List SO} {as : List (Addr × Addr)} {news : List (Addr × Obj)}, SosT W.ads.length led xs ys → LedR P B (wa W more) as xs news → ∃ qs, List.Sublist qs news ∧ LedR P B (wa W (⟨[], more.fz ++ S⟩ : Wd)) as ys qs := by
 intro xs ys as news t
 induction t generalizing as news with
 | nil => intro l; cases l; exact ⟨[], List.Sublist.refl _, .nil⟩
 | cons t _ ih =>
  intro l
  cases l with
  | cons o l =>
   obtain ⟨q1, s1, o1⟩ := zQS X t o
   obtain ⟨q2, s2, o2⟩ := ih l
   exact ⟨q1 ++ q2, s1.append s2, .cons o1 o2⟩
theorem zEO {W more : Wd} {st st' : St} {h : Heap} (ok : FmOk C F) (R : Rep w F (wa W more) st h) (T : Trim W.ads.length st st') : ∃ z, Rep w F (wa W (⟨[], z⟩ : Wd)) st' h ∧ ∀ x y v, SvT W.ads.length st.led x y → Den F.B (wa W more) x v → Den F.B (wa W (⟨[], z⟩ : Wd)) y v := by
 obtain ⟨m, news, lw, X⟩ := R
 have hlen : st.led.length = W.ads.length + more.ads.length := by
  have := X.led.length
  rw [Wd.ads_append, List.length_append] at this
  exact this
 have XL := X.led
 rw [Wd.ads_append, ← List.take_append_drop W.ads.length st.led] at XL
 obtain ⟨n1, n2, e, r1, r2⟩ := zHN (by rw [List.length_take]; lia) XL
 subst e
 have at2 : zGm w.params F.B (wa W more) (mask W.ads.length st.led) n2 := by
  intro i so hi
  unfold mask at hi
  by_cases hlt : i < W.ads.length
  ·rw [List.getElem?_append_left (by rw [List.length_replicate]; exact hlt), List.getElem?_replicate, if_pos hlt] at hi
   cases hi; exact .inl rfl
  ·rw [List.getElem?_append_right (by rw [List.length_replicate]; lia), List.length_replicate] at hi
   obtain ⟨a, d, ps, h1, h2, h3⟩ := r2.atI hi
   refine .inr ⟨a, d, ps, ?_, h2, h3⟩
   rw [Wd.ads_append, List.getElem?_append_right (by lia)]
   exact h1
 have pm : (n1 ++ n2 ++ ((wa W more).fz ++ lw)).Perm (n1 ++ ((wa W (⟨[], more.fz ++ n2⟩ : Wd)).fz ++ lw)) := by
  show (n1 ++ n2 ++ ((W.fz ++ more.fz) ++ lw)).Perm (n1 ++ ((W.fz ++ (more.fz ++ n2)) ++ lw))
  rw [List.append_assoc, ← List.append_assoc W.fz, ← List.append_assoc n2]
  exact List.Perm.append_left n1 (List.Perm.append_right lw List.perm_append_comm)
 obtain ⟨qs, sub, lq⟩ := zNb at2 T.led r1
 have sub2 : List.Sublist (qs ++ ((wa W (⟨[], more.fz ++ n2⟩ : Wd)).fz ++ lw)) (n1 ++ ((wa W (⟨[], more.fz ++ n2⟩ : Wd)).fz ++ lw)) := sub.append (List.Sublist.refl _)
 refine ⟨more.fz ++ n2, ⟨m, qs, lw, X.fr, fun p hp => X.nw p (pm.mem_iff.mpr (sub2.subset hp)), ?_, ?_, ?_, X.ups⟩, fun x y v t d => zCb at2 t d⟩
 ·intro x y hx
  obtain ⟨z, h1, h2⟩ := T.loc x y hx
  obtain ⟨v, e1, e2⟩ := X.loc x z h1
  exact ⟨v, e1, zCb at2 h2 e2⟩
 ·have : (wa W (⟨[], more.fz ++ n2⟩ : Wd)).ads = W.ads := List.append_nil _
  rw [this]
  exact lq
 ·exact (sub2.map (·.1)).nodup ((pm.map (·.1)).nodup_iff.mp X.nd)
theorem zCm {W more : Wd} {st st' : St} {h : Heap} (ok : FmOk C F) (R : Rep w F (wa W more) st h) (T : Trim W.ads.length st st') : ∃ z, Rep w F (wa W (⟨[], z⟩ : Wd)) st' h :=
 let ⟨z, r, _⟩ := zEO ok R T; ⟨z, r⟩
theorem zEa {α : Type} {x : Str} {y : α} : ∀ {l m : List (Str × α)}, lk x l = some y → lk x (l ++ m) = some y
 | (z, a) :: r, m, h => by
  show lk x ((z, a) :: (r ++ m)) = _
  unfold lk at h ⊢
  cases q : Fast.sEq x z with
  | true => rw [q] at h; exact h
  | false => rw [q] at h; exact zEa h
noncomputable def okV (n : Nat) (v : SV) : Prop := match v with
 | .obj i => i < n
 | _ => True
noncomputable def okF (n : Nat) : List (Str × SV) → Prop
 | [] => True
 | (_, v) :: r => okV n v ∧ okF n r
theorem zPX {n : Nat} {v : SV} (h : zAe v) : okV n v := by
 cases v with
 | obj i => exact h.elim
 | _ => trivial
theorem zGD {n : Nat} {led : List SO} {v : SV} (h : okV n v) : SvT n led v v := by
 cases v with
 | obj i => exact .keep h
 | _ => exact .same trivial
theorem zEp {n : Nat} {led : List SO} : ∀ {fs : List (Str × SV)}, okF n fs → FldT n led fs fs
 | [], _ => .nil
 | (_, _) :: _, h => .cons (zGD h.1) (zEp h.2)
theorem zEV {n : Nat} : ∀ {fs : List (Str × SV)}, okF n fs → ∀ z ∈ fs, okV n z.2 := by
 intro fs
 induction fs with
 | nil => intro _ z hz; cases hz
 | cons p r ih =>
  intro h z hz
  rcases List.mem_cons.mp hz with rfl | hz
  ·exact h.1
  ·exact ih h.2 z hz
end
noncomputable abbrev srcO (v : SV) (o : Option SO) : Option (List SV × (Nat → SO)) := match o with
 | none => none
 | some x => match x with
  | .list xs => some (xs, .it true v)
  | .tup xs => some (xs, .it false v)
  | .rng n => some ((List.range n).map fun (j : Nat) => SV.int (j : Int), .itr n)
  | _ => none
noncomputable def srcT (st : St) (v : SV) : Option (List SV × (Nat → SO)) := match v with
 | .str s => some (s.cps.toList.map fun c => .str (sgS c), .it true (.str s))
 | .obj i => srcO (.obj i) st.led[i]?
 | .dat d => match d with
  | .list ds => some (ds.map svOf, .it true (.dat (.list ds)))
  | .tuple ds => some (ds.map svOf, .it false (.dat (.tuple ds)))
  | _ => none
 | _ => none
inductive SrcK (st : St) : SV → List SV → (Nat → SO) → Prop
 | str (s : Str) : SrcK st (.str s) (s.cps.toList.map fun c => .str (sgS c)) (.it true (.str s))
 | seq {v : SV} {b : Bool} {xs : List SV} : zEL st v = some (b, xs) → SrcK st v xs (.it b v)
 | rng {i n : Nat} : st.led[i]? = some (.rng n) → SrcK st (.obj i) ((List.range n).map fun (j : Nat) => SV.int (j : Int)) (.itr n)
theorem zBj {st : St} {v : SV} {all : List SV} {slot : Nat → SO} (h : srcT st v = some (all, slot)) : SrcK st v all slot := by
 cases v <;> first | exact zAR h | skip
 ·cases h; exact .str _
 ·rename_i i
  replace h : srcO (.obj i) st.led[i]? = some (all, slot) := h
  cases hi : st.led[i]? with
  | none => rw [hi] at h; exact zAR h
  | some x =>
   rw [hi] at h
   cases x <;> first | exact zAR h | skip
   ·cases h
    exact .seq (congrArg seqO hi)
   ·cases h
    exact .seq (congrArg seqO hi)
   ·cases h
    exact .rng hi
 ·rename_i d
  cases d <;> first | exact zAR h | skip
  ·cases h; exact .seq rfl
  ·cases h; exact .seq rfl
section
variable {w : World} {C : Cf} {F : Fm} {ads : Wd} {s : Shared} {st : St} {A : Around} {E : Value → Shared → Prop}
theorem zBI {h : Heap} (R : Rep w F ads st h) : st.led.length = ads.ads.length := let ⟨_, _, _, X⟩ := R; X.led.length
theorem zEQ {h : Heap} {p j : Nat} {I : Addr} {b : Bool} {src : SV} (R : Rep w F ads st h) (dI : Den F.B ads (.obj p) (.ref I)) (hp : st.led[p]? = some (.it b src j)) :
  ∃ o u, h.get? I = some o ∧ zPI b o u j ∧ Den F.B ads src u ∧
   (∀ h' o' j', h'.get? I = some o' → zPI b o' u j' → (∀ c, c ≠ I → ∀ q, h.get? c = some q → h'.get? c = some q) → Rep w F ads { st with led := st.led.set p (.it b src j') } h') ∧
   ∀ h', (∀ c, c ≠ I → ∀ q, h.get? c = some q → h'.get? c = some q) → Rep w F ads { st with led := st.led.set p .gone } h' := by
 obtain ⟨m, news, lw, pre, ps, post, a, dd, X, h1, h2, h3, h4⟩ := zCq R hp
 obtain ⟨q, hq, e⟩ := dI
 rw [h2] at hq
 obtain rfl := Option.some.inj hq
 obtain rfl : I = a := by cases e; rfl
 obtain ⟨o, u, hit, dv, rfl⟩ := h3.inv
 exact ⟨o, u, (X.nw (I, o) (by rw [h1]; simp)).1, hit, dv, fun h' o' j' e1 e2 hs => zCL X h1 (h4 _ _ (One.it e2 dv)) e1 hs, fun h' hs => zHC X h1 (h4 _ _ One.gone) hs⟩
theorem zIT {h : Heap} {p j n : Nat} {I : Addr} (R : Rep w F ads st h) (dI : Den F.B ads (.obj p) (.ref I)) (hp : st.led[p]? = some (.itr n j)) :
  h.get? I = some (zDa n j) ∧
   (∀ h' j', h'.get? I = some (zDa n j') → (∀ c, c ≠ I → ∀ q, h.get? c = some q → h'.get? c = some q) → Rep w F ads { st with led := st.led.set p (.itr n j') } h') ∧
   ∀ h', (∀ c, c ≠ I → ∀ q, h.get? c = some q → h'.get? c = some q) → Rep w F ads { st with led := st.led.set p .gone } h' := by
 obtain ⟨m, news, lw, pre, ps, post, a, dd, X, h1, h2, h3, h4⟩ := zCq R hp
 obtain ⟨q, hq, e⟩ := dI
 rw [h2] at hq
 obtain rfl := Option.some.inj hq
 obtain rfl : I = a := by cases e; rfl
 obtain rfl := h3.inv
 exact ⟨(X.nw (I, zDa n j) (by rw [h1]; simp)).1, fun h' j' e1 hs => zCL X h1 (h4 _ _ One.itr) e1 hs, fun h' hs => zHC X h1 (h4 _ _ One.gone) hs⟩
theorem zDP {v : SV} {u : Value} {all : List SV} {slot : Nat → SO} {Q : Value → Shared → Prop} (ok : FmOk C F) (R : Rep w F ads st s.heap) (d : Den F.B ads v u) (hs : srcT st v = some (all, slot))
  (hQ : ∀ s', Rep w F (wa ads (.one s.heap.objs.size 0)) { st with led := st.led ++ [slot 0] } s'.heap → Nx F s s' → Q (.ref s.heap.objs.size) s') : wpAny (model prog w) A (pyIter u) Q E s := by
 cases zBj hs with
 | str x =>
  obtain ⟨⟨t, rfl⟩, l⟩ := d
  refine wpAny_pyIter_strU (hQ _ (zAr rfl R (.it (v := .str x t) ⟨rfl, rfl⟩ ⟨⟨t, rfl⟩, l⟩)) (Nx.of_gens rfl rfl rfl))
 | seq hq =>
  rename_i b
  obtain ⟨a, vs, rfl, hsq, D⟩ := zAw ok R d hq
  cases b with
  | true => exact wpAny_pyIter_list hsq (hQ _ (zAr rfl R (.it (v := .ref a) ⟨rfl, rfl⟩ d.mono)) (Nx.of_gens rfl rfl rfl))
  | false => exact wpAny_pyIter_tuple hsq (hQ _ (zAr rfl R (.it (v := .ref a) ⟨rfl, rfl⟩ d.mono)) (Nx.of_gens rfl rfl rfl))
 | rng hi =>
  rename_i i n
  obtain ⟨m, news, lw, pre, ps, post, a, dd, X, h1, h2, h3, h4⟩ := zCq R hi
  obtain ⟨p, hp, rfl⟩ := d
  rw [h2] at hp; cases hp
  obtain ⟨t, u, v, hn, rfl⟩ := h3.inv
  ·rw [sizeLine_eq] at hn
   have hr : IsRange s.heap a 0 n 1 t u v := (X.nw (a, rngO n t u v) (by rw [h1]; simp)).1
   have sz : Builtin.Range.rangeSize 0 n 1 = (n : Int) := by rw [rangeSize_nat]; lia
   refine wpAny_pyIter_range hr (small_one (by lia) (by lia) (by lia) (by lia)) ?_
   rw [sz]
   refine hQ _ (zAr rfl ⟨m, news, lw, X⟩ ?_) (Nx.of_gens rfl rfl rfl)
   have := One.itr (P := w.params) (B := F.B) (G := (wa ads (.one s.heap.objs.size 0))) (a := s.heap.objs.size) (d := 0) (n := n) (j := 0)
   simpa [zDa] using this
theorem zEi {v x : SV} {p j : Nat} {I : Addr} {all : List SV} {slot : Nat → SO} {Q : Option Value → Shared → Prop} (ok : FmOk C F) (R : Rep w F ads st s.heap) (dI : Den F.B ads (.obj p) (.ref I)) (hp : st.led[p]? = some (slot j)) (hs : srcT st v = some (all, slot)) (hx : all[j]? = some x)
  (hQ : ∀ s' u, Rep w F ads { st with led := st.led.set p (slot (j + 1)) } s'.heap → Nx F s s' → Den F.B ads x u → Q (some u) s') : wpAny (model prog w) A (pyNext (.ref I)) Q E s := by
 have R0 := R
 cases zBj hs with
 | str y =>
  obtain ⟨o, u, ho, hit, dv, upd, drop⟩ := zEQ R dI hp
  ·obtain ⟨⟨t, rfl⟩, l⟩ := dv
   obtain ⟨c1, c2⟩ := hit
   rw [List.getElem?_map, Option.map_eq_some_iff] at hx
   obtain ⟨c, hc, rfl⟩ := hx
   have hc' : y.cps[j]? = some c := by simpa using hc
   have fin : ∀ h', h'.IsStrIter I (strIterType y) y t (j + 1) → Heap.SameBut I s.heap h' → Q (some (.str ⟨#[c]⟩ s.toks)) { s with heap := h', toks := s.toks + 1 } := fun h' hi' hs' => by
    obtain ⟨o', e1, e2, e3⟩ := hi'
    exact hQ _ _ (upd _ _ _ e1 ⟨e2, e3⟩ fun b hb o q => (hs'.2 b hb).trans q) (Nx.of_gens rfl rfl rfl) ⟨⟨_, rfl⟩, by rw [zBU, sizeLine_eq]; lia⟩
   by_cases ha : y.cps.all (· < 128) = true
   ·have et : strIterType y = "str_ascii_iterator" := by unfold strIterType; rw [ha]; rfl
    rw [et] at c1 fin
    exact wpAny_pyNext_ascii_item ⟨o, ho, c1, c2⟩ hc' fin
   ·have et : strIterType y = "str_iterator" := by unfold strIterType; rw [Bool.not_eq_true] at ha; rw [ha]; rfl
    rw [et] at c1 fin
    exact wpAny_pyNext_wide_item ⟨o, ho, c1, c2⟩ hc' fin
 | seq hq =>
  rename_i b
  obtain ⟨o, u, ho, hit, dv, upd, drop⟩ := zEQ R dI hp
  ·obtain ⟨l, vs, rfl, hsq, D⟩ := zAw ok R0 dv hq
   obtain ⟨c1, c2⟩ := hit
   obtain ⟨y, hy, dy⟩ := D.get hx
   cases b with
   | true =>
    refine wpAny_pyNext_list_item ⟨o, ho, c1, c2⟩ hsq (by simpa using hy) fun h' hi' hs' => ?_
    obtain ⟨o', e1, e2, e3⟩ := hi'
    exact hQ _ _ (upd _ _ _ e1 ⟨e2, e3⟩ fun b hb o q => (hs'.2 b hb).trans q) (Nx.of_gens rfl rfl rfl) dy
   | false =>
    refine wpAny_pyNext_tuple_item ⟨o, ho, c1, c2⟩ hsq (by simpa using hy) fun h' hi' hs' => ?_
    obtain ⟨o', e1, e2, e3⟩ := hi'
    exact hQ _ _ (upd _ _ _ e1 ⟨e2, e3⟩ fun b hb o q => (hs'.2 b hb).trans q) (Nx.of_gens rfl rfl rfl) dy
 | rng hi =>
  rename_i i n
  obtain ⟨ho', upd, drop⟩ := zIT R dI hp
  ·have ho : IsRangeIter s.heap I j ((n : Int) - j) 1 := ho'
   rw [List.getElem?_map, Option.map_eq_some_iff] at hx
   obtain ⟨c, hc, rfl⟩ := hx
   have hjn : j < n := by
    rw [List.getElem?_eq_some_iff] at hc
    obtain ⟨h, _⟩ := hc
    simpa using h
   have hcj : c = j := by
    rw [List.getElem?_eq_some_iff] at hc
    obtain ⟨h, e⟩ := hc
    simpa using e.symm
   subst hcj
   refine wpAny_pyNext_range_item ho (by lia) fun h' hi' hs' => ?_
   have e1 : h'.get? I = some (zDa n (c + 1)) := by
    have := hi'
    unfold zDa
    rw [show ((c + 1 : Nat) : Int) = (c : Int) + 1 by lia, show (n : Int) - ((c : Int) + 1) = (n : Int) - c - 1 by lia]
    exact this
   exact hQ _ _ (upd _ _ e1 fun b hb o q => (hs'.2 b hb).trans q) (Nx.of_gens rfl rfl rfl) ⟨_, rfl⟩
theorem zHV {v : SV} {p j : Nat} {I : Addr} {all : List SV} {slot : Nat → SO} {Q : Option Value → Shared → Prop} (hh : A.handled = none) (ok : FmOk C F) (R : Rep w F ads st s.heap) (dI : Den F.B ads (.obj p) (.ref I)) (hp : st.led[p]? = some (slot j)) (hs : srcT st v = some (all, slot)) (hx : all[j]? = none)
  (hQ : ∀ s', Rep w F ads { st with led := st.led.set p .gone } s'.heap → Nx F s s' → Q none s') : wpAny (model prog w) A (pyNext (.ref I)) Q E s := by
 have R0 := R
 cases zBj hs with
 | str y =>
  obtain ⟨o, u, ho, hit, dv, upd, drop⟩ := zEQ R dI hp
  ·obtain ⟨⟨t, rfl⟩, l⟩ := dv
   obtain ⟨c1, c2⟩ := hit
   have hc' : y.cps[j]? = none := by simpa using hx
   have fin : ∀ h', Heap.ExtBut I s.heap h' → Q none { s with heap := h' } := fun h' hs' =>
    hQ _ (drop _ fun b hb o q => hs' b o hb q) (Nx.of_gens rfl rfl rfl)
   by_cases ha : y.cps.all (· < 128) = true
   ·have et : strIterType y = "str_ascii_iterator" := by unfold strIterType; rw [ha]; rfl
    rw [et] at c1
    exact wpAny_pyNext_ascii_end hh ⟨o, ho, c1, c2⟩ hc' fin
   ·have et : strIterType y = "str_iterator" := by unfold strIterType; rw [Bool.not_eq_true] at ha; rw [ha]; rfl
    rw [et] at c1
    exact wpAny_pyNext_wide_end hh ⟨o, ho, c1, c2⟩ hc' fin
 | seq hq =>
  rename_i b
  obtain ⟨o, u, ho, hit, dv, upd, drop⟩ := zEQ R dI hp
  ·obtain ⟨l, vs, rfl, hsq, D⟩ := zAw ok R0 dv hq
   obtain ⟨c1, c2⟩ := hit
   have hy : vs.toArray[j]? = none := by
    have := D.length
    rw [List.getElem?_eq_none_iff] at hx
    simp; lia
   have fin : ∀ h', Heap.ExtBut I s.heap h' → Q none { s with heap := h' } := fun h' hs' =>
    hQ _ (drop _ fun b hb o q => hs' b o hb q) (Nx.of_gens rfl rfl rfl)
   cases b with
   | true => exact wpAny_pyNext_list_end hh ⟨o, ho, c1, c2⟩ hsq hy fin
   | false => exact wpAny_pyNext_tuple_end hh ⟨o, ho, c1, c2⟩ hsq hy fin
 | rng hi =>
  rename_i i n
  obtain ⟨ho', upd, drop⟩ := zIT R dI hp
  ·have ho : IsRangeIter s.heap I j ((n : Int) - j) 1 := ho'
   have hjn : n ≤ j := by
    rw [List.getElem?_eq_none_iff] at hx
    simpa using hx
   exact wpAny_pyNext_range_end hh ho (by lia) fun h' hs' => hQ _ (drop _ fun b hb o q => hs' b o hb q) (Nx.of_gens rfl rfl rfl)
theorem zKb {v : SV} {p j : Nat} {I : Addr} {all : List SV} {slot : Nat → SO} {Q : Value → Shared → Prop} (ok : FmOk C F) (R : Rep w F ads st s.heap) (dI : Den F.B ads (.obj p) (.ref I)) (hp : st.led[p]? = some (slot j)) (hs : srcT st v = some (all, slot)) (hQ : Q (.ref I) s) : wpAny (model prog w) A (pyIter (.ref I)) Q E s := by
 have R0 := R
 cases zBj hs with
 | str y =>
  obtain ⟨o, u, ho, hit, dv, upd, drop⟩ := zEQ R dI hp
  ·obtain ⟨⟨t, rfl⟩, l⟩ := dv
   obtain ⟨c1, c2⟩ := hit
   by_cases ha : y.cps.all (· < 128) = true
   ·have et : strIterType y = "str_ascii_iterator" := by unfold strIterType; rw [ha]; rfl
    rw [et] at c1
    exact wpAny_pyIter_striter_ascii ⟨o, ho, c1, c2⟩ hQ
   ·have et : strIterType y = "str_iterator" := by unfold strIterType; rw [Bool.not_eq_true] at ha; rw [ha]; rfl
    rw [et] at c1
    exact wpAny_pyIter_striter_wide ⟨o, ho, c1, c2⟩ hQ
 | seq hq =>
  rename_i b
  obtain ⟨o, u, ho, hit, dv, upd, drop⟩ := zEQ R dI hp
  ·obtain ⟨l, vs, rfl, hsq, D⟩ := zAw ok R0 dv hq
   obtain ⟨c1, c2⟩ := hit
   cases b with
   | true => exact wpAny_pyIter_listiter ⟨o, ho, c1, c2⟩ hQ
   | false => exact wpAny_pyIter_tupleiter ⟨o, ho, c1, c2⟩ hQ
 | rng hi =>
  rename_i i n
  obtain ⟨ho', upd, drop⟩ := zIT R dI hp
  ·have ho : IsRangeIter s.heap I j ((n : Int) - j) 1 := ho'
   exact wpAny_pyIter_rangeiter ho hQ
theorem zEd {target : Expr} {it v : Value} {Q : Unit → Shared → Prop} (hv : ∀ a, v ≠ .ref a) (h : Q () s) : wpAny (model prog w) A (letOwnedTupleGo target it v) Q E s := by
 unfold letOwnedTupleGo
 cases target <;> first
  | exact wpAny_pure h
  | (cases v <;> first
    | exact absurd rfl (hv _)
    | (cases it <;> exact wpAny_pure h))
theorem zDQ {v x : SV} {p j : Nat} {I : Addr} {u : Value} {all : List SV} {slot : Nat → SO} {target : Expr} {Q : Unit → Shared → Prop} (ok : FmOk C F) (R : Rep w F ads st s.heap) (dI : Den F.B ads (.obj p) (.ref I)) (hp : st.led[p]? = some (slot j)) (hk : SrcK st v all slot) (hx : x ∈ all) (dx : Den F.B ads x u) (hQ : Q () s) : wpAny (model prog w) A (letOwnedTupleGo target (.ref I) u) Q E s := by
 cases hk with
 | str y =>
  obtain ⟨c, _, rfl⟩ := List.mem_map.mp hx
  obtain ⟨⟨t, rfl⟩, _⟩ := dx
  exact zEd (fun a e => nomatch e) hQ
 | seq hq =>
  rename_i b
  obtain ⟨o, y, ho, hit, dv, upd, drop⟩ := zEQ R dI hp
  ·obtain ⟨l, vs, rfl, hsq, D⟩ := zAw ok R dv hq
   obtain ⟨c1, c2⟩ := hit
   cases b with
   | true => exact PyProof.Rows.letGo_listiter ⟨o, ho, c1, c2⟩ hQ
   | false => exact PyProof.Rows.letGo_tupleiter ⟨o, ho, c1, c2⟩ hQ
 | rng hi =>
  obtain ⟨c, _, rfl⟩ := List.mem_map.mp hx
  obtain ⟨t, rfl⟩ := dx
  exact zEd (fun a e => nomatch e) hQ
end
noncomputable abbrev onOb (x : SV) (f : Nat → Prop) : Prop := match x with
 | .obj i => f i
 | _ => False
theorem zAz {x : SV} {f : Nat → Prop} (h : onOb x f) : ∃ s, x = .obj s ∧ f s := by
 cases x <;> first | exact ⟨_, rfl, h⟩ | exact h.elim
noncomputable abbrev zJX (o : Option NameKind) (p q : Prop) : Prop := match o with
 | none => False
 | some k => match k with
  | .local => p
  | .cell => q
  | _ => False
theorem zBs {o : Option NameKind} {p q : Prop} (h : zJX o p q) : (o = some .local ∧ p) ∨ (o = some .cell ∧ q) := by
 cases o with
 | none => exact h.elim
 | some x => cases x <;> first | exact .inl ⟨rfl, h⟩ | exact .inr ⟨rfl, h⟩ | exact h.elim
noncomputable def stT (ns : List (Str × NameKind)) (x : Str) (v : SV) (st : St) (k : St → Prop) : Prop := zJX (zAb x ns) (k { st with loc := put x v st.loc }) (zBM (lk x st.loc) fun y => onOb y fun i => zQt st.led[i]? fun _ => k { st with led := st.led.set i (.cell (some v)) })
noncomputable def zBn (ns : List (Str × NameKind)) : List Expr → List SV → St → (St → Prop) → Prop
 | [], xs, st, k => match xs with
  | [] => k st
  | _ => False
 | e :: es, xs, st, k => match e with
  | .Name n _ => match xs with
   | x :: xs => stT ns n x st fun st' => zBn ns es xs st' k
   | [] => False
  | _ => False
noncomputable def zAN (ns : List (Str × NameKind)) (tgt : Expr) (x : SV) (st : St) (k : St → Prop) : Prop := match tgt with
 | .Name n _ => stT ns n x st k
 | .Tuple elts _ _ => ∃ b xs, zEL st x = some (b, xs) ∧ xs.length = elts.length ∧ zBn ns elts xs st k
 | _ => False
noncomputable def forE (bnd : SV → St → (St → Prop) → Prop) (body : St → Kt → Prop) (v : SV) (all : List SV) (slot : Nat → SO) (p : Nat) : Nat → List SV → St → Kt → Prop
 | j, [], st, k => st.led[p]? = some (slot j) ∧ srcT st v = some (all, slot) ∧ k .next { st with led := st.led.set p .gone }
 | j, x :: xs, st, k => st.led[p]? = some (slot j) ∧ srcT st v = some (all, slot) ∧ bnd x { st with led := st.led.set p (slot (j + 1)) } fun st₁ => body st₁ fun r st₂ => match r with
  | .next => ∃ st₃, Trim st.led.length st₂ st₃ ∧ forE bnd body v all slot p (j + 1) xs st₃ k
  | .cont => ∃ st₃, Trim st.led.length st₂ st₃ ∧ forE bnd body v all slot p (j + 1) xs st₃ k
  | .ret y => k (.ret y) st₂
  | _ => False
noncomputable def zCA (test : Option (St → Kt → Prop)) (st : St) (k : Bool → St → Prop) : Prop := match test with
 | none => k true st
 | some t => t st fun r st₁ => match r with
  | .b c => k c st₁
  | _ => False
noncomputable def appT (q : Nat) (y : SV) (st : St) (k : St → Prop) : Prop := zLr st.led[q]? fun ys => ys.length ≤ sizeLine ∧ k { st with led := st.led.set q (.list (ys ++ [y])) }
noncomputable def zBQ (bnd : SV → St → (St → Prop) → Prop) (test : Option (St → Kt → Prop)) (elt : St → Kt → Prop) (v : SV) (all : List SV) (slot : Nat → SO) (p q : Nat) : Nat → List SV → St → (St → Prop) → Prop
 | j, [], st, k => st.led[p]? = some (slot j) ∧ srcT st v = some (all, slot) ∧ k { st with led := st.led.set p .gone }
 | j, x :: xs, st, k => st.led[p]? = some (slot j) ∧ srcT st v = some (all, slot) ∧ bnd x { st with led := st.led.set p (slot (j + 1)) } fun st₁ => zCA test st₁ fun c st₂ =>
   ifT c (elt st₂ fun r st₃ => match r with
    | .v y => appT q y st₃ fun st₄ => ∃ st₅, Trim st.led.length st₄ st₅ ∧ zBQ bnd test elt v all slot p q (j + 1) xs st₅ k
    | _ => False)
   (∃ st₅, Trim st.led.length st₂ st₅ ∧ zBQ bnd test elt v all slot p q (j + 1) xs st₅ k)
section
variable {w : World} {C : Cf} {F : Fm} {ads : Wd} {s : Shared} {st : St} {A : Around} {E : Value → Shared → Prop}
theorem zHn {it l : Addr} {items : Array Value} (hne : l ≠ it) : ∀ (n i : Nat) (s : Shared) (Q : List Value → Shared → Prop), s.heap.IsListIter it l i → s.heap.IsList l items → i + n ≤ items.size →
  (∀ h', h'.IsListIter it l (i + n) → Heap.SameBut it s.heap h' → Q ((items.toList.drop i).take n) { s with heap := h' }) → wpAny (model prog w) A (draw (.ref it) n) Q E s
 | 0, i, s, Q, hit, _, _, hQ => by
  show wpAny _ _ (pure []) Q E s
  exact wpAny_pure (by simpa using hQ s.heap hit (Heap.SameBut.refl ..))
 | n + 1, i, s, Q, hit, ht, hle, hQ => by
  have hlt : i < items.size := by lia
  show wpAny _ _ (pyNext (.ref it) >>= _) Q E s
  refine wpAny_bind (wpAny_pyNext_list_item hit ht (x := items[i]) (by simp [hlt]) fun h₁ hit₁ hs₁ => ?_)
  refine wpAny_bind (wpAny_holding (zHn hne n (i + 1) _ _ hit₁ (ht.extBut hs₁.extBut hne) (by lia) fun h₂ hit₂ hs₂ => wpAny_pure ?_))
  have hd : items.toList.drop i = items[i] :: items.toList.drop (i + 1) := by simp [List.drop_eq_getElem_cons, hlt]
  have := hQ h₂ (by rw [show i + (n + 1) = i + 1 + n by lia]; exact hit₂) (hs₁.trans hs₂)
  rw [hd, List.take_succ_cons] at this
  exact this
theorem zDk {t : Addr} {items : Array Value} {Q : List Value → Shared → Prop} (hh : A.handled = none) (ht : s.heap.IsList t items)
  (hQ : ∀ h', Heap.ExtBut s.heap.objs.size s.heap h' → Q items.toList { s with heap := h' }) : wpAny (model prog w) A (unpackItems (.ref t) items.size none) Q E s := by
 have hlt : t ≠ s.heap.objs.size := by obtain ⟨o, ho, _⟩ := ht; exact Nat.ne_of_lt (Heap.lt_size ho)
 unfold unpackItems
 refine wpAny_bind ?_
 ·unfold notIterableAtAll
  refine wpAny_bind (wpAny_specialOf ht.typeIs slot_list_iter.lookup ?_)
  refine wpAny_pure ?_
  simp only [Bool.false_eq_true, if_false]
  refine wpAny_bind (wpAny_holding (wpAny_pyIter_list ht ?_))
  refine wpAny_bind (wpAny_holding (zHn hlt items.size 0 _ _ ⟨_, Heap.get?_push_size _ rfl, rfl, rfl⟩ (ht.push _) (by lia) fun h₁ hit₁ hs₁ => ?_))
  have hall : List.take items.size (List.drop 0 items.toList) = items.toList := by
   rw [List.drop_zero]; exact List.take_of_length_le (by simp)
  rw [hall]
  rw [if_neg (by simp)]
  have ht₁ : h₁.IsList t items := (ht.push _).extBut hs₁.extBut hlt
  refine wpAny_bind (wpAny_holding (wpAny_pyNext_list_end hh hit₁ ht₁ (by simp) fun h₂ he₂ => ?_))
  simp only [Option.isSome_none, Bool.false_eq_true, if_false]
  refine wpAny_pure (hQ h₂ fun b o hb e => he₂ b o hb (hs₁.extBut b o hb (Heap.get?_push_of_some _ e)))
theorem zJg {b : Bool} {t : Addr} {vs : List Value} {targets : List (Bool × (Value → Sem Unit))} {Q : Unit → Shared → Prop} (hh : A.handled = none) (ht : SeqAt s.heap b t vs)
  (hn : targets.length = vs.length) (hstar : targets.findIdx? (·.1) = none)
  (h : ∀ h', Heap.ExtBut s.heap.objs.size s.heap h' → wpAny (model prog w) A (assignInOrder (targets.map (·.2)) vs) Q E { s with heap := h' }) :
  wpAny (model prog w) A (unpack (.ref t) targets) Q E s := by
 cases b with
 | true =>
  unfold unpack
  rw [hn, hstar, show vs.length = vs.toArray.size by simp]
  exact wpAny_bind (wpAny_holding (zDk hh ht (by simpa using h)))
 | false => exact unpack_tuple hh ht (by simpa using hn) hstar (by simpa using h)
theorem zBG {x : Str} {v : SV} {u : Value} {k : St → Prop} {Q : Unit → Shared → Prop} (ok : FmOk C F) (R : Rep w F ads st s.heap) (d : Den F.B ads v u) (h : stT F.sc.names x v st k)
  (hQ : ∀ st' s', k st' → Rep w F ads st' s'.heap → Nx F s s' → Q () s') : wpAny (model prog w) F.A (storeName F.env x u) Q E s := by
 rcases zBs h with ⟨hk, h⟩ | ⟨hk, h⟩
 ·rw [zAV] at hk
  exact zEP ok R d hk fun h' t R' => hQ _ _ h R' (Nx.mk' s h' t)
 ·rw [zAV] at hk
  obtain ⟨y, hi, h⟩ := zAK h
  obtain ⟨i, rfl, h⟩ := zAz h
  obtain ⟨old, ho, h⟩ := zDM h
  exact zHD ok R hk hi ho d fun h' R' => hQ _ _ h R' (Nx.of_gens rfl rfl rfl)
theorem zFB (ok : FmOk C F) : ∀ {es : List Expr} {xs : List SV} {vs : List Value} {st : St} {s : Shared} {k : St → Prop} {Q : Unit → Shared → Prop}, Rep w F ads st s.heap → DenL F.B ads xs vs → zBn F.sc.names es xs st k →
  (∀ st' s', k st' → Rep w F ads st' s'.heap → Nx F s s' → Q () s') → wpAny (model prog w) F.A (assignInOrder ((assignEach es F.env).map (·.2)) vs) Q E s
 | [], xs, vs, st, s, k, Q, R, D, h, hQ => by
  cases D with
  | nil => exact wpAny_pure (hQ _ _ h R (Nx.refl s))
  | cons _ _ => exact h.elim
 | e :: es, xs, vs, st, s, k, Q, R, D, h, hQ => by
  cases e <;> first | exact False.elim h | skip
  cases D with
  | nil => exact h.elim
  | cons dx dr =>
   refine assignInOrder_cons (wpAny_assign_Name (zBG (k := fun st' => zBn F.sc.names es _ st' k) ok R dx h fun st' s' h R' x' => ?_))
   exact zFB ok R' dr h fun st'' s'' hk R'' x'' => hQ _ _ hk R'' (x'.trans x'')
theorem zCZ : ∀ {ns : List (Str × NameKind)} {es : List Expr} {xs : List SV} {st : St} {k : St → Prop} {env : Env}, zBn ns es xs st k → (assignEach es env).length = es.length ∧ (assignEach es env).findIdx? (·.1) = none := by
 have key : ∀ {es : List Expr} {env : Env}, (∀ e ∈ es, ∃ n p, e = .Name n p) → (assignEach es env).length = es.length ∧ (assignEach es env).findIdx? (·.1) = none := by
  intro es env
  induction es with
  | nil => intro _; exact ⟨rfl, rfl⟩
  | cons e es ih =>
   intro h
   obtain ⟨n, p, rfl⟩ := h _ (.head _)
   obtain ⟨a, b⟩ := ih fun x hx => h x (.tail _ hx)
   refine ⟨congrArg (· + 1) a, ?_⟩
   show List.findIdx? (·.1) ((false, assign (.Name n p) env) :: assignEach es env) = none
   rw [List.findIdx?_cons, b]
   rfl
 intro ns es xs st k env h
 refine key ?_
 induction es generalizing xs st k with
 | nil => intro e he; cases he
 | cons e es ih =>
  cases e <;> first | exact False.elim h | skip
  cases xs with
  | nil => exact False.elim h
  | cons x xs =>
   intro e' he'
   rcases List.mem_cons.mp he' with rfl | he'
   ·exact ⟨_, _, rfl⟩
   ·rcases zBs h with ⟨_, h⟩ | ⟨_, h⟩
    ·exact ih h e' he'
    ·obtain ⟨y, _, h⟩ := zAK h
     obtain ⟨i, _, h⟩ := zAz h
     obtain ⟨o, _, h⟩ := zDM h
     exact ih h e' he'
theorem zCS {tgt : Expr} {x : SV} {u : Value} {k : St → Prop} {Q : Unit → Shared → Prop} (ok : FmOk C F) (R : Rep w F ads st s.heap) (d : Den F.B ads x u) (h : zAN F.sc.names tgt x st k)
  (hQ : ∀ st' s', k st' → Rep w F ads st' s'.heap → Nx F s s' → Q () s') : wpAny (model prog w) F.A (assign tgt F.env u) Q E s := by
 cases tgt <;> first | exact False.elim h | skip
 ·exact wpAny_assign_Name (zBG ok R d h hQ)
 ·rename_i elts q pos
  obtain ⟨b, xs, e, hl, h⟩ := h
  obtain ⟨a, vs, rfl, hsq, D⟩ := zAw ok R d e
  obtain ⟨l1, l2⟩ := zCZ (env := F.env) h
  rw [PyProof.Rows.assign_Tuple]
  refine wpAny_bind (wpAny_standAt (zJg ok.hand hsq (by rw [l1, ← hl, D.length]) l2 fun h' he => ?_))
  refine zFB (s := { s with heap := h' }) ok ?_ D h fun st' s' hk R' x' => hQ st' s' hk R' ((Nx.of_gens rfl rfl rfl : Nx F s { s with heap := h' }).trans x')
  exact zCn R fun b o q => he b o (Nat.ne_of_lt (Heap.lt_size q)) q
end
section
variable {w : World} {C : Cf} {F : Fm} {ads : Wd} {s : Shared} {st : St} {A : Around} {E : Value → Shared → Prop}
theorem zGi {target it : _} {body : List Stmt} {env : Env} {R : Result → Shared → Prop}
  (turn : wpAny (model prog w) A (pyNext it) (fun r s₁ => match r with
   | none => wpAny (model prog w) A (execs [] env) (fun f s₃ => R (.ok f) s₃) (notedBy (model prog w) A env fun e s' => R (.error e) s') s₁
   | some v => wpAny (model prog w) A (letOwnedTupleGo target it v) (fun _ s₁' =>
     wpAny (model prog w) A (assign target env v) (fun _ s₂ => wpAny (model prog w) A (execs body env) (fun f s₃ => match f with
      | .next | .cont => codeAny (model prog w) A (.forLoop target it body [] env) R s₃
      | .brk => R (.ok .next) s₃
      | .ret v => R (.ok (.ret v)) s₃) (notedBy (model prog w) A env fun e s' => R (.error e) s') s₂) (notedBy (model prog w) A env fun e s' => R (.error e) s') s₁') (notedBy (model prog w) A env fun e s' => R (.error e) s') s₁) (notedBy (model prog w) A env fun e s' => R (.error e) s') s) :
  codeAny (model prog w) A (.forLoop target it body [] env) R s := by
 refine codeAny_of_tree ?_
 show wpAny _ A ((forTurn target it body [] env).onRaise (fun x => do noteFrame x env; theTreesLotGoes x)) _ _ s
 refine wpAny_noted ?_
 simp only [forTurn]
 refine wpAny_bind (wpAny_standAt (wpAny_bind (wpAny_onRaise (wpAny_mono turn (fun r s₁ h₁ => ?_) fun _ _ h' => wpAny_standAt h'))))
 cases r with
 | none => exact wpAny_pure ⟨rfl, codeAny_block h₁⟩
 | some v =>
  refine wpAny_bind (wpAny_mono h₁ (fun _ s₁' h₁' => ?_) fun _ _ h' => h')
  refine wpAny_bind (wpAny_mono h₁' (fun _ s₂ h₂ => wpAny_bind (wpAny_mono h₂ (fun f s₃ h₃ => ?_) fun _ _ h' => h')) fun _ _ h' => h')
  cases f with
  | next => exact wpAny_pure ⟨rfl, h₃⟩
  | cont => exact wpAny_pure ⟨rfl, h₃⟩
  | brk => exact wpAny_pure h₃
  | ret v => exact wpAny_pure h₃
theorem zGF {st : St} {v x : SV} {all xs : List SV} {slot : Nat → SO} {j : Nat} (hs : srcT st v = some (all, slot)) (hd : all.drop j = x :: xs) : all[j]? = some x ∧ all.drop (j + 1) = xs ∧ x ∈ all := by
 have h1 : all[j]? = some x := by
  have := congrArg (fun l => l[0]?) hd
  simpa using this
 refine ⟨h1, ?_, List.mem_of_getElem? h1⟩
 rw [← List.tail_drop, hd]; rfl
theorem zGE {st : St} {v : SV} {all : List SV} {slot : Nat → SO} {p j : Nat} (h1 : st.led[p]? = some (slot j)) (h2 : srcT st v = some (all, slot)) : SrcK { st with led := st.led.set p (slot (j + 1)) } v all slot := by
 cases zBj h2 with
 | str y => exact .str y
 | seq hq =>
  rename_i b
  refine .seq ?_
  cases v <;> first | exact zAR hq | exact hq | skip
  ·rename_i i
   replace hq : seqO st.led[i]? = some (b, all) := hq
   show seqO (st.led.set p (SO.it b (SV.obj i) (j + 1)))[i]? = _
   by_cases hip : i = p
   ·subst hip
    rw [h1] at hq
    cases hq
   ·rw [List.getElem?_set_ne (Ne.symm hip)]
    exact hq
 | rng hi =>
  rename_i i n
  refine .rng ?_
  by_cases hip : i = p
  ·subst hip
   rw [h1] at hi; cases hi
  ·rw [show ({ st with led := st.led.set p (SO.itr n (j + 1)) } : St).led = st.led.set p (SO.itr n (j + 1)) from rfl, List.getElem?_set_ne (Ne.symm hip)]
   exact hi
theorem zFm {tgt : Expr} {body : List Stmt} {I : Addr} {bd : St → Kt → Prop} {v : SV} {all : List SV} {slot : Nat → SO} {p : Nat} {k : Kt} {Q : CR → Shared → Prop} (ok : FmOk C F)
  (hb : ∀ (E' : Value → Shared → Prop) (st : St) (k' : Kt) (ads : Wd) (s : Shared) (Q' : CR → Shared → Prop), bd st k' → Rep w F ads st s.heap → Then w F ads s k' Q' → wpAny (model prog w) F.A (execs body F.env) (fun f s' => Q' (.fl f) s') E' s)
  {R : Result → Shared → Prop} (hR : ∀ f s', Q (.fl f) s' → R (.ok f) s') : ∀ (xs : List SV) (j : Nat) (st : St) (ads : Wd) (s : Shared), forE (zAN F.sc.names tgt) bd v all slot p j xs st k → all.drop j = xs → Rep w F ads st s.heap → Den F.B ads (.obj p) (.ref I) → Then w F ads s k Q →
   codeAny (model prog w) F.A (.forLoop tgt (.ref I) body [] F.env) R s
 | [], j, st, ads, s, h, hd, Rp, dI, T => by
  obtain ⟨h1, h2, h3⟩ := h
  refine zGi (zHV ok.hand ok Rp dI h1 h2 ?_ fun s' R' x' => ?_)
  ·rw [List.getElem?_eq_none_iff]
   rw [List.drop_eq_nil_iff] at hd; exact hd
  ·exact wpAny_execs_nil (hR _ _ (T.same (r := .next) (c := .fl .next) h3 R' x' trivial))
 | x :: xs, j, st, ads, s, h, hd, Rp, dI, T => by
  obtain ⟨h1, h2, h3⟩ := h
  obtain ⟨e1, e2, e3⟩ := zGF h2 hd
  have hplt : p < st.led.length := (List.getElem?_eq_some_iff.mp h1).1
  have hpl : st.led.length = ads.ads.length := zBI Rp
  refine zGi (zEi ok Rp dI h1 h2 e1 fun s₁ u R₁ x₁ du => ?_)
  have hp1 : (st.led.set p (slot (j + 1)))[p]? = some (slot (j + 1)) := by rw [List.getElem?_set_self hplt]
  refine zDQ (v := v) (st := { st with led := st.led.set p (slot (j + 1)) }) ok R₁ dI hp1 ?_ e3 du ?_
  ·exact zGE h1 h2
  ·refine zCS ok R₁ du h3 fun st₂ s₂ h₂ R₂ x₂ => ?_
   refine hb _ st₂ _ ads s₂ (fun c s' => match c with
    | .fl f => match f with
     | .next | .cont => codeAny (model prog w) F.A (.forLoop tgt (.ref I) body [] F.env) R s'
     | .brk => R (.ok .next) s'
     | .ret v => R (.ok (.ret v)) s'
    | _ => False) h₂ R₂ ?_
   intro r st₃ m c s₃ h₃ R₃ x₃ d₃
   have xx := (x₁.trans x₂).trans x₃
   have nxt : (∃ st₄, Trim st.led.length st₃ st₄ ∧ forE (zAN F.sc.names tgt) bd v all slot p (j + 1) xs st₄ k) → codeAny (model prog w) F.A (.forLoop tgt (.ref I) body [] F.env) R s₃ := by
    rintro ⟨st₄, tr, h₄⟩
    rw [hpl] at tr
    obtain ⟨z, R₄⟩ := zCm ok R₃ tr
    exact zFm ok hb hR xs (j + 1) st₄ _ s₃ h₄ e2 R₄ dI.mono (T.later xx)
   cases r with
   | next =>
    cases c with
    | fl f => cases f <;> first | exact nxt h₃ | exact d₃.elim
    | _ => exact d₃.elim
   | cont =>
    cases c with
    | fl f => cases f <;> first | exact nxt h₃ | exact d₃.elim
    | _ => exact d₃.elim
   | ret y =>
    cases c with
    | fl f => cases f <;> first | exact d₃.elim | exact hR _ _ ((T.later (more := m) xx).same (r := .ret y) h₃ R₃ (Nx.refl _) d₃)
    | _ => exact d₃.elim
   | _ => exact h₃.elim
end
noncomputable def zTn (k : ScopeKind) : Bool := match k with
 | .function => true
 | _ => false
noncomputable def zDJ (ns all : List (Str × NameKind)) : List (Str × NameKind) → Bool
 | [] => true
 | (x, k) :: r => match k with
  | .cell => false
  | .local => kLoc (zAb x all) && zDJ ns all r
  | .free => kFre (zAb x all) && (kCel (zAb x ns) && zDJ ns all r)
  | _ => zDJ ns all r
noncomputable def scOk (ns : List (Str × NameKind)) (sc : Scope) : Bool := match zTn sc.kind with
 | true => zDJ ns sc.names sc.names
 | false => false
theorem zCl {ns all : List (Str × NameKind)} : ∀ {l : List (Str × NameKind)}, zDJ ns all l = true → ∀ x ∈ l, x.2 ≠ .cell ∧ (x.2 = .local → all.lookup x.1 = some .local) ∧ (x.2 = .free → all.lookup x.1 = some .free ∧ ns.lookup x.1 = some .cell)
 | (y, k) :: r, h, x, hx => by
  have rest : zDJ ns all r = true → x ∈ r → x.2 ≠ .cell ∧ (x.2 = .local → all.lookup x.1 = some .local) ∧ (x.2 = .free → all.lookup x.1 = some .free ∧ ns.lookup x.1 = some .cell) := fun h hx => zCl h x hx
  cases k with
  | cell => exact Bool.noConfusion h
  | «local» =>
   obtain ⟨hk, h⟩ := zAM h
   rcases List.mem_cons.mp hx with rfl | hx
   ·exact ⟨nofun, fun _ => zEh hk, nofun⟩
   ·exact rest h hx
  | free =>
   obtain ⟨hk, h⟩ := zAM h
   obtain ⟨hk', h⟩ := zAM h
   rcases List.mem_cons.mp hx with rfl | hx
   ·exact ⟨nofun, nofun, fun _ => ⟨zRL hk, zIh hk'⟩⟩
   ·exact rest h hx
  | _ =>
   rcases List.mem_cons.mp hx with rfl | hx
   ·exact ⟨nofun, nofun, nofun⟩
   ·exact rest h hx
noncomputable def zAu : List (Str × NameKind) → List (Str × NameKind)
 | [] => []
 | (x, k) :: r => match k with
  | .free => (x, .cell) :: zAu r
  | k => (x, k) :: zAu r
theorem zJO {env : Env} (hk : env.scope.kind = .function) : ∀ {l : List (Str × NameKind)}, (∀ x ∈ l, x.2 = .free → env.kindOf x.1 = some .cell) → (l.map fun (n, k) => if (k == NameKind.free && env.scope.kind == .function && env.kindOf n == some .cell) then (n, NameKind.cell) else (n, k)) = zAu l
 | [], _ => rfl
 | (x, k) :: r, h => by
  have ih := zJO hk (l := r) fun y hy => h y (.tail _ hy)
  rw [List.map_cons, ih]
  cases k with
  | free =>
   have := h _ (.head _) rfl
   show (if _ then _ else _) :: _ = (x, NameKind.cell) :: zAu r
   rw [hk, this]; rfl
  | _ => rfl
theorem zCD : ∀ {l : List (Str × NameKind)} {x : Str}, (zAu l).lookup x = (l.lookup x).map fun k => match k with
  | .free => .cell
  | k => k
 | [], _ => rfl
 | (y, k) :: r, x => by
  have ih := zCD (l := r) (x := x)
  cases q : x == y with
  | true => cases k <;> simp [zAu, List.lookup_cons, q]
  | false => cases k <;> simp [zAu, List.lookup_cons, q, ih]
noncomputable def clOf (cells : List (Str × Addr)) : List (Str × NameKind) → List (Str × Addr) → List (Str × Addr)
 | [], acc => acc
 | (x, k) :: r, acc => match k with
  | .free => clOf cells r ((x, (cells.lookup x).getD 0) :: acc)
  | _ => clOf cells r acc
theorem zDE {env : Env} {scope : Scope} (h : ∀ x ∈ scope.names, x.2 = .free → ∃ a, env.cells.lookup x.1 = some a) : closureFor scope env = pure (clOf env.cells scope.names []) := by
 have key : ∀ (l : List (Str × NameKind)) (acc : List (Str × Addr)), (∀ x ∈ l, x.2 = .free → ∃ a, env.cells.lookup x.1 = some a) →
   (forIn l acc fun (x : Str × NameKind) (cs : List (Str × Addr)) => match x with
    | (name, kind) => if (kind == .free) = true then (do let a ← cellOf env name; pure (ForInStep.yield ((name, a) :: cs))) else pure (ForInStep.yield cs) : Sem (List (Str × Addr))) = pure (clOf env.cells l acc) := by
  intro l
  induction l with
  | nil => intro acc _; rfl
  | cons x r ih =>
   intro acc h
   obtain ⟨n, k⟩ := x
   rw [List.forIn_cons]
   have hr := fun acc => ih acc fun y hy => h y (.tail _ hy)
   cases k with
   | free =>
    obtain ⟨a, ha⟩ := h _ (.head _) rfl
    have e1 : cellOf env n = pure a := by unfold cellOf; rw [ha]
    show ((do let a ← cellOf env n; pure (ForInStep.yield ((n, a) :: acc))) >>= _) = _
    rw [e1]
    show (forIn r ((n, a) :: acc) _ : Sem _) = pure (clOf env.cells r ((n, (env.cells.lookup n).getD 0) :: acc))
    rw [ha]
    exact hr _
   | _ => exact hr _
 have := key scope.names [] h
 unfold closureFor
 simp only [bind_pure_comp] at this ⊢
 first
  | exact this
  | (simp only [map_pure, bind_pure] at this ⊢; exact this)
  | (rw [← this]; rfl)
theorem zBv {cells : List (Str × Addr)} {x : Str} : ∀ {l : List (Str × NameKind)} {acc : List (Str × Addr)}, (clOf cells l acc).lookup x = if (x, NameKind.free) ∈ l then some ((cells.lookup x).getD 0) else acc.lookup x
 | [], acc => by simp [clOf]
 | (y, k) :: r, acc => by
  have other : k ≠ .free → (clOf cells r acc).lookup x = if (x, NameKind.free) ∈ (y, k) :: r then some ((cells.lookup x).getD 0) else acc.lookup x := fun hk => by
   rw [zBv]
   have : ((x, NameKind.free) ∈ (y, k) :: r) ↔ (x, NameKind.free) ∈ r := by
    rw [List.mem_cons]
    exact ⟨fun h => h.resolve_left fun e => hk (by cases e; rfl), .inr⟩
   simp only [this]
  cases k with
  | free =>
   show (clOf cells r _).lookup x = _
   rw [zBv]
   by_cases hr : (x, NameKind.free) ∈ r
   ·rw [if_pos hr, if_pos (.tail _ hr)]
   ·rw [if_neg hr, List.lookup_cons]
    by_cases hy : x = y
    ·subst hy
     rw [beq_self_eq_true, if_pos (.head _)]
    ·have : (x == y) = false := beq_eq_false_iff_ne.mpr hy
     rw [this, if_neg]
     intro h
     rcases List.mem_cons.mp h with e | h
     ·cases e; exact hy rfl
     ·exact hr h
  | _ => exact other (by simp)
noncomputable def zBC (loc : List (Str × SV)) : List (Str × NameKind) → List (Str × SV)
 | [] => []
 | (x, k) :: r => match k with
  | .free => match lk x loc with
   | some v => (x, v) :: zBC loc r
   | none => zBC loc r
  | _ => zBC loc r
theorem zDU {loc : List (Str × SV)} {x : Str} {v : SV} : ∀ {l : List (Str × NameKind)}, lk x (zBC loc l) = some v → lk x loc = some v ∧ (x, NameKind.free) ∈ l
 | [], h => by cases h
 | (y, k) :: r, h => by
  have other : lk x (zBC loc r) = some v → lk x loc = some v ∧ (x, NameKind.free) ∈ (y, k) :: r := fun h => ⟨(zDU h).1, .tail _ (zDU h).2⟩
  cases k with
  | free =>
   unfold zBC at h
   dsimp only at h
   split at h
   ·rename_i u hu
    unfold lk at h
    cases q : Fast.sEq x y with
    | true =>
     rw [q] at h; cases h
     have := zAO q; subst this
     exact ⟨hu, .head _⟩
    | false => rw [q] at h; exact other h
   ·exact other h
  | _ => exact other h
section
variable {w : World} {C : Cf} {F : Fm} {ads : Wd} {s : Shared} {st : St} {A : Around} {E : Value → Shared → Prop}
theorem zFW {ns : List (Str × NameKind)} {sc : Scope} (h : scOk ns sc = true) : sc.kind = .function ∧ ∀ x ∈ sc.names, x.2 ≠ .cell ∧ (x.2 = .local → sc.names.lookup x.1 = some .local) ∧ (x.2 = .free → sc.names.lookup x.1 = some .free ∧ ns.lookup x.1 = some .cell) := by
 unfold scOk at h
 split at h
 ·rename_i hk
  refine ⟨?_, zCl h⟩
  cases q : sc.kind <;> first | rfl | (rw [q] at hk; exact Bool.noConfusion hk)
 ·cases h
theorem zKn {sc : Scope} {o0 : Obj} {h₁ : Heap} (ok : FmOk C F) (hsc : scOk F.sc.names sc = true) (R : Rep w F ads st s.heap) (hns : h₁.Ns s.heap.objs.size (fun x => ([] : List (Str × Value)).reverse.lookup x)) (hsb : Heap.SameBut s.heap.objs.size (s.heap.push o0) h₁) :
  ∃ F' : Fm, FmOk C F' ∧ F'.A = F.A ∧ F'.env = compEnvC sc (clOf F.env.cells sc.names []) s.heap.objs.size F.env ∧ (F'.B = F.B ∧ F'.quiet = F.quiet) ∧ F'.sc.names = zAu sc.names ∧ Rep w F' ads ⟨zBC st.loc sc.names, st.led⟩ h₁ ∧
   (∀ W loc' loc₂ led' h' h'', Rep w F' W ⟨loc', led'⟩ h' → (∀ b o, b ≠ s.heap.objs.size → h'.get? b = some o → h''.get? b = some o) → (∀ x y, lk x loc₂ = some y → ∃ z, lk x st.loc = some z ∧ ∀ v, Den F.B ads z v → Den F.B W y v) → Rep w F W ⟨loc₂, led'⟩ h'') ∧ (∀ W st' h', Rep w F' W st' h' → ∃ m, h'.Ns s.heap.objs.size m) := by
 obtain ⟨hk, hn⟩ := zFW hsc
 obtain ⟨m, news, lw, X⟩ := R
 obtain ⟨oL, es, ep, hL, hLd, hLk, hLf⟩ := X.fr.ns
 have hF0 : F.h₀.get? F.L = none := by
  cases q : F.h₀.get? F.L with
  | none => rfl
  | some o => exact absurd (Heap.lt_size q) (Nat.not_lt.mpr X.fr.above)
 let all : List (Addr × Obj) := news ++ (ads.fz ++ ((F.L, oL) :: lw))
 have pmA : all.Perm ((F.L, oL) :: (news ++ (ads.fz ++ lw))) := by
  show (news ++ (ads.fz ++ ((F.L, oL) :: lw))).Perm _
  rw [← List.append_assoc, ← List.append_assoc]
  exact List.perm_middle
 have nwA : ∀ p ∈ all, s.heap.get? p.1 = some p.2 ∧ F.h₀.get? p.1 = none := fun p hp => by
  rcases List.mem_cons.mp (pmA.mem_iff.mp hp) with rfl | q
  ·exact ⟨hL, hF0⟩
  ·exact ⟨(X.nw p q).1, (X.nw p q).2.2⟩
 have ndA : (all.map (·.1)).Nodup := by
  refine (pmA.map (·.1)).nodup_iff.mpr (List.nodup_cons.mpr ⟨fun q => ?_, X.nd⟩)
  obtain ⟨p, hp, e⟩ := List.mem_map.mp q
  exact (X.nw p hp).2.1 e
 have nm : ∀ b o, F.h₀.get? b = some o → b ∉ all.map (·.1) := fun b o e q => by
  obtain ⟨p, hp, rfl⟩ := List.mem_map.mp q
  rw [(nwA p hp).2] at e; cases e
 have stay : F.h₀.StaysIn (hideAll s.heap (all.map (·.1))) := fun b o e => hideAll_get _ (X.fr.keep b o e) (nm b o e)
 have hk₁ : ∀ b o, s.heap.get? b = some o → h₁.get? b = some o := fun b o e => hsb.extBut b o (Nat.ne_of_lt (Heap.lt_size e)) (Heap.get?_push_of_some _ e)
 let cl := clOf F.env.cells sc.names []
 let en : Env := compEnvC sc cl s.heap.objs.size F.env
 have hrel : (relabel sc F.env).names = zAu sc.names := zJO (show F.env.scope.kind = _ from ok.kind) fun x hx hf => ((hn x hx).2.2 hf).2
 let F' : Fm := ⟨F.B, hideAll s.heap (all.map (·.1)), s.heap.objs.size, en, F.A, F.stk, (F.L, oL) :: lw, F.quiet⟩
 have clk : ∀ x, (x, NameKind.free) ∈ sc.names → ∃ a, F.env.cells.lookup x = some a ∧ cl.lookup x = some a := fun x hx => by
  obtain ⟨a, ha⟩ := ok.cel2 x ((hn _ hx).2.2 rfl).2
  refine ⟨a, ha, ?_⟩
  show (clOf F.env.cells sc.names []).lookup x = some a
  rw [zBv, if_pos hx, ha]; rfl
 have cnone : ∀ x, sc.names.lookup x = some .local → cl.lookup x = none := fun x hx => by
  show (clOf F.env.cells sc.names []).lookup x = none
  rw [zBv, if_neg]
  ·rfl
  ·intro hm
   rw [((hn _ hm).2.2 rfl).1] at hx; cases hx
 have ok' : FmOk C F' := by
  refine ⟨ok.X.keeps stay, ok.G.keeps stay, fun b o e => stay b o (ok.stay b o e), hk, ok.hand, ok.stack, ok.loud, (ok.low.ups X.ups).inner (fun vs q => by rw [hLd] at q; cases q), rfl, ok.gl, ok.bi, fun x hx => ?_, fun x hx => ?_⟩
  ·have hx' : (zAu sc.names).lookup x = some .local := hrel ▸ hx
   rw [zCD, Option.map_eq_some_iff] at hx'
   obtain ⟨k, h1, h2⟩ := hx'
   cases k <;> first | exact cnone x h1 | cases h2
  ·have hx' : (zAu sc.names).lookup x = some .cell := hrel ▸ hx
   rw [zCD, Option.map_eq_some_iff] at hx'
   obtain ⟨k, h1, h2⟩ := hx'
   cases k with
   | free =>
    obtain ⟨a, _, q⟩ := clk x (mem_of_lookup h1)
    exact ⟨a, q⟩
   | cell => exact absurd rfl (hn _ (mem_of_lookup h1)).1
   | _ => cases h2
 refine ⟨F', ok', rfl, rfl, ⟨rfl, rfl⟩, hrel, ?_, ?_, ?_⟩
 ·refine ⟨_, news, (F.L, oL) :: lw, ⟨hns, fun b o q => hk₁ b o (of_hideAll _ q), Nat.le_of_eq (hideAll_size _ _)⟩, fun p hp => ⟨hk₁ _ _ (nwA p hp).1, Nat.ne_of_lt (Heap.lt_size (nwA p hp).1), hideAll_none _ (List.mem_map_of_mem hp)⟩, ?_, X.led, ndA, Ups.refl _⟩
  intro x sv hx
  obtain ⟨h1, h2⟩ := zDU hx
  obtain ⟨v, e1, e2⟩ := X.loc x sv h1
  obtain ⟨a, q1, q2⟩ := clk x h2
  refine ⟨v, ?_, e2⟩
  unfold locM at e1 ⊢
  rw [q1] at e1
  show (match cl.lookup x with | some a => _ | none => _) = _
  rw [q2]; exact e1
 ·intro W loc' loc₂ led' h' h'' R1 hs hloc
  obtain ⟨m', news', lw', X'⟩ := R1
  have u := X'.ups
  have nw' := X'.nw
  have nd' := X'.nd
  have keepC : ∀ b o, b ≠ s.heap.objs.size → h'.get? b = some o → h''.get? b = some o := hs
  have notC : ∀ b o, s.heap.get? b = some o → b ≠ s.heap.objs.size := fun b o e => Nat.ne_of_lt (Heap.lt_size e)
  cases u with
  | cons u =>
   rename_i sl lw₂
   have pm : (news' ++ (W.fz ++ ((F.L, { oL with slots := sl }) :: lw₂))).Perm ((F.L, { oL with slots := sl }) :: (news' ++ (W.fz ++ lw₂))) := by
    rw [← List.append_assoc, ← List.append_assoc]
    exact List.perm_middle
   have nd2 := (pm.map (·.1)).nodup_iff.mp nd'
   rw [List.map_cons, List.nodup_cons] at nd2
   have hLn := (nw' _ (pm.mem_iff.mpr (.head _))).1
   refine ⟨m, news', lw₂, ⟨⟨_, es, ep, keepC _ _ (notC _ _ hL) hLn, hLd, hLk, hLf⟩, fun b o q => keepC _ _ (notC _ _ (X.fr.keep b o q)) (X'.fr.keep b o (stay b o q)), X.fr.above⟩, fun p hp => ⟨?_, fun q => ?_, ?_⟩, fun x y hx => let ⟨z, a, b⟩ := hloc x y hx; let ⟨v, c, d⟩ := X.loc x z a; ⟨v, c, b v d⟩, X'.led, nd2.2, X.ups.trans u⟩
   ·have z := nw' p (pm.mem_iff.mpr (.tail _ hp))
    exact keepC _ _ z.2.1 z.1
   ·exact nd2.1 (List.mem_map.mpr ⟨p, hp, q⟩)
   ·cases q : F.h₀.get? p.1 with
    | none => rfl
    | some o =>
     have hz : (hideAll s.heap (all.map (·.1))).get? p.1 = none := (nw' p (pm.mem_iff.mpr (.tail _ hp))).2.2
     rw [stay _ _ q] at hz; cases hz
 ·intro W st' h' R1
  obtain ⟨m', news', lw', X'⟩ := R1
  exact ⟨m', X'.fr.ns⟩
theorem zHr {elt target iter : Expr} {ifs : List Expr} {scope : Scope} {pos : Pos} {it acc : Value} {env : Env} {R : Result → Shared → Prop}
  (turn : wpAny (model prog w) A (pyNext it) (fun r s₁ => match r with
   | none => R (.ok .next) s₁
   | some v => wpAny (model prog w) A (letOwnedTupleGo target it v) (fun _ s₁' => wpAny (model prog w) A (assign target env v) (fun _ s₂ =>
     wpAny (model prog w) A (forIn ifs true fun c r => if r = true then do let ok ← isTrue c env (eval c env); pure (ForInStep.yield ok) else pure (ForInStep.yield r)) (fun ok s₃ =>
      if ok = true then wpAny (model prog w) A (eval elt env) (fun x s₄ =>
       wpAny (model prog w) A (call (.builtin "list.append") [acc, x]) (fun _ s₅ => codeAny (model prog w) A (.compLoop (.ListComp elt [⟨target, iter, ifs, 0⟩] scope pos) 0 it acc env) R s₅) (notedBy (model prog w) A env fun e s' => R (.error e) s') s₄) (notedBy (model prog w) A env fun e s' => R (.error e) s') s₃
      else codeAny (model prog w) A (.compLoop (.ListComp elt [⟨target, iter, ifs, 0⟩] scope pos) 0 it acc env) R s₃) (notedBy (model prog w) A env fun e s' => R (.error e) s') s₂) (notedBy (model prog w) A env fun e s' => R (.error e) s') s₁') (notedBy (model prog w) A env fun e s' => R (.error e) s') s₁) (notedBy (model prog w) A env fun e s' => R (.error e) s') s) :
  codeAny (model prog w) A (.compLoop (.ListComp elt [⟨target, iter, ifs, 0⟩] scope pos) 0 it acc env) R s := by
 refine codeAny_of_tree ?_
 show wpAny _ A ((compTurn (.ListComp elt [⟨target, iter, ifs, 0⟩] scope pos) 0 it acc env).onRaise (fun x => do noteFrame x env; theTreesLotGoes x)) _ _ s
 refine wpAny_noted ?_
 rw [compTurn_list]
 refine wpAny_bind (wpAny_standAt (wpAny_bind (wpAny_mono turn (fun r s₁ h₁ => ?_) fun _ _ h' => h')))
 cases r with
 | none => exact wpAny_pure h₁
 | some v =>
  refine wpAny_bind (wpAny_mono h₁ (fun _ s₁' h₁' => ?_) fun _ _ h' => h')
  refine wpAny_bind (wpAny_mono h₁' (fun _ s₂ h₂ => wpAny_bind (wpAny_mono h₂ (fun ok s₃ h₃ => ?_) fun _ _ h' => h')) fun _ _ h' => h')
  cases ok with
  | false =>
   simp only [Bool.false_eq_true, if_false] at h₃ ⊢
   first
    | exact wpAny_pure ⟨rfl, h₃⟩
    | exact wpAny_bind (wpAny_pure (wpAny_pure ⟨rfl, h₃⟩))
  | true =>
   simp only [if_true] at h₃ ⊢
   refine wpAny_bind (wpAny_bind (wpAny_mono h₃ (fun x s₄ h₄ => wpAny_bind (wpAny_mono h₄ (fun _ s₅ h₅ => wpAny_pure (wpAny_pure ⟨rfl, h₅⟩)) fun _ _ h' => h')) fun _ _ h' => h'))
end
section
variable {w : World} {C : Cf} {F : Fm} {ads : Wd} {s : Shared} {st : St} {A : Around} {E : Value → Shared → Prop}
noncomputable def EvOk (w : World) (F : Fm) (e : Expr) (ev : St → Kt → Prop) : Prop := ∀ (E' : Value → Shared → Prop) (st : St) (k' : Kt) (ads : Wd) (s : Shared) (Q' : CR → Shared → Prop), ev st k' → Rep w F ads st s.heap → Then w F ads s k' Q' → wpAny (model prog w) F.A (eval e F.env) (fun v s' => Q' (.v v) s') E' s
noncomputable def TrOk (w : World) (F : Fm) (e : Expr) (ev : St → Kt → Prop) : Prop := ∀ (E' : Value → Shared → Prop) (st : St) (k' : Kt) (ads : Wd) (s : Shared) (Q' : CR → Shared → Prop), ev st k' → Rep w F ads st s.heap → Then w F ads s k' Q' → wpAny (model prog w) F.A (PySem.isTrue e F.env (eval e F.env)) (fun b s' => Q' (.b b) s') E' s
inductive IfsOk (w : World) (F : Fm) : List Expr → Option (St → Kt → Prop) → Prop
 | none : IfsOk w F [] none
 | one {c : Expr} {t : St → Kt → Prop} : TrOk w F c t → IfsOk w F [c] (some t)
theorem zIF {ifs : List Expr} {test : Option (St → Kt → Prop)} {k : Bool → St → Prop} {Q : Bool → Shared → Prop} (ht : IfsOk w F ifs test) (R : Rep w F ads st s.heap) (h : zCA test st k)
  (hQ : ∀ c st' more s', k c st' → Rep w F (wa ads more) st' s'.heap → Nx F s s' → Q c s') :
  wpAny (model prog w) F.A (forIn ifs true fun c r => if r = true then do let ok ← isTrue c F.env (eval c F.env); pure (ForInStep.yield ok) else pure (ForInStep.yield r)) Q E s := by
 cases ht with
 | none => exact wpAny_tests_nil (hQ true st .nil s h (by rw [Wd.append_nil]; exact R) (Nx.refl s))
 | one hc =>
  refine wpAny_tests_one (hc E st _ ads s (fun c s' => match c with | .b c => Q c s' | _ => False) h R ?_)
  intro r st₁ m1 c s₁ h₁ R₁ x₁ d₁
  cases r with
  | b c' =>
   cases c with
   | b c => cases d₁; exact hQ _ _ _ _ h₁ R₁ x₁
   | _ => exact d₁.elim
  | _ => exact h₁.elim
theorem zEy {tgt iter elt : Expr} {ifs : List Expr} {sc : Scope} {pos : Pos} {I a : Addr} {el : St → Kt → Prop} {test : Option (St → Kt → Prop)} {v : SV} {all : List SV} {slot : Nat → SO} {p q : Nat} {k : St → Prop} (ok : FmOk C F)
  (he : EvOk w F elt el) (ht : IfsOk w F ifs test) (hpq : p < q) {R : Result → Shared → Prop} : ∀ (xs : List SV) (j : Nat) (st : St) (ads : Wd) (s : Shared), zBQ (zAN F.sc.names tgt) test el v all slot p q j xs st k → all.drop j = xs → Rep w F ads st s.heap → Den F.B ads (.obj p) (.ref I) → Den F.B ads (.obj q) (.ref a) →
   (∀ more st' s', k st' → Rep w F (wa ads more) st' s'.heap → Nx F s s' → R (.ok .next) s') →
   codeAny (model prog w) F.A (.compLoop (.ListComp elt [⟨tgt, iter, ifs, 0⟩] sc pos) 0 (.ref I) (.ref a) F.env) R s
 | [], j, st, ads, s, h, hd, Rp, dI, da, fin => by
  obtain ⟨h1, h2, h3⟩ := h
  refine zHr (zHV ok.hand ok Rp dI h1 h2 ?_ fun s' R' x' => ?_)
  ·rw [List.getElem?_eq_none_iff]
   rw [List.drop_eq_nil_iff] at hd; exact hd
  ·exact fin .nil _ s' h3 (by rw [Wd.append_nil]; exact R') x'
 | x :: xs, j, st, ads, s, h, hd, Rp, dI, da, fin => by
  obtain ⟨h1, h2, h3⟩ := h
  obtain ⟨e1, e2, e3⟩ := zGF h2 hd
  have hplt : p < st.led.length := (List.getElem?_eq_some_iff.mp h1).1
  have hpl : st.led.length = ads.ads.length := zBI Rp
  have nxt : ∀ (st₃ : St) (m : Wd) (s₃ : Shared), Nx F s s₃ → Rep w F (wa ads m) st₃ s₃.heap → (∃ st₅, Trim st.led.length st₃ st₅ ∧ zBQ (zAN F.sc.names tgt) test el v all slot p q (j + 1) xs st₅ k) → codeAny (model prog w) F.A (.compLoop (.ListComp elt [⟨tgt, iter, ifs, 0⟩] sc pos) 0 (.ref I) (.ref a) F.env) R s₃ := by
   rintro st₃ m s₃ xx R₃ ⟨st₄, tr, h₄⟩
   rw [hpl] at tr
   obtain ⟨z, R₄⟩ := zCm ok R₃ tr
   exact zEy ok he ht hpq xs (j + 1) st₄ _ s₃ h₄ e2 R₄ dI.mono da.mono fun more st' s' hk R' x' => fin (wa (⟨[], z⟩) more) st' s' hk (by rw [← Wd.append_assoc]; exact R') (xx.trans x')
  refine zHr (zEi ok Rp dI h1 h2 e1 fun s₁ u R₁ x₁ du => ?_)
  have hp1 : (st.led.set p (slot (j + 1)))[p]? = some (slot (j + 1)) := by rw [List.getElem?_set_self hplt]
  refine zDQ (v := v) (st := { st with led := st.led.set p (slot (j + 1)) }) ok R₁ dI hp1 (zGE h1 h2) e3 du ?_
  refine zCS ok R₁ du h3 fun st₂ s₂ h₂ R₂ x₂ => ?_
  refine zIF ht R₂ h₂ fun c st₃ m1 s₃ h₃ R₃ x₃ => ?_
  have z := zBO h₃
  have xx := (x₁.trans x₂).trans x₃
  split
  ·rename_i hct
   refine he _ st₃ _ (wa ads m1) s₃ (fun c s' => match c with
    | .v y => wpAny (model prog w) F.A (call (.builtin "list.append") [.ref a, y]) (fun _ s₅ => codeAny (model prog w) F.A (.compLoop (.ListComp elt [⟨tgt, iter, ifs, 0⟩] sc pos) 0 (.ref I) (.ref a) F.env) R s₅) _ s'
    | _ => False) (z.1 hct) R₃ ?_
   intro r st₄ m2 c s₄ h₄ R₄ x₄ d₄
   cases r with
   | v y =>
    cases c with
    | v u' =>
     obtain ⟨ys, hq, hl, h₅⟩ := zCO h₄
     refine zDi R₄ (da.mono.mono) hq d₄ hl fun h' R₅ => ?_
     refine nxt _ (wa m1 m2) { s₄ with heap := h' } (xx.trans (x₄.trans (Nx.of_gens rfl rfl rfl))) ?_ h₅
     rw [← Wd.append_assoc]; exact R₅
    | _ => exact d₄.elim
   | _ => exact h₄.elim
  ·rename_i hct
   exact nxt st₃ m1 s₃ xx R₃ (z.2 (by simpa using hct))
noncomputable def zAf (loc : List (Str × SV)) (p q : Nat) (stE : St) (k : SV → St → Prop) : Prop := ∃ ys ds st', stE.led[q]? = some (.list ys) ∧ frzs ys = some ds ∧ ds.length ≤ sizeLine ∧ Trim p ⟨loc, stE.led⟩ st' ∧ k (.dat (.list ds)) st'
theorem zEm {led : List SO} : ∀ {xs : List SV} {ds : List PyData}, frzs xs = some ds → FrzL led xs ds
 | [], _, h => by cases h; exact .nil
 | x :: xs, _, h => by
  unfold frzs at h
  split at h
  ·rename_i d hd
   split at h
   ·rename_i ds hds
    cases h
    refine .cons ?_ (zEm hds)
    cases x with
    | none => cases hd; exact .none
    | bool b => cases hd; exact .bool b
    | int i => cases hd; exact .int i
    | str s => cases hd; exact .str s
    | sg c es fs => cases hd; exact .sg c es fs
    | dat d => cases hd; exact .dat d
    | _ => cases hd
   ·cases h
  ·cases h
theorem zOK {p q : Nat} {led : List SO} (h : p ≤ q) : (mask p led)[q]? = led[q]? := by
 unfold mask
 rw [List.getElem?_append_right (by rw [List.length_replicate]; exact h), List.length_replicate, List.getElem?_drop]
 congr 1; omega
theorem zKm {tgt iter elt : Expr} {ifs : List Expr} {sc : Scope} {pos : Pos} {use : Option (Value → Sem Unit)} {ksrc : SV → St → Prop} {k : SV → St → Prop} {Q : Value → Shared → Prop} (ok : FmOk C F) (hsc : scOk F.sc.names sc = true)
  (hset : ∀ x, foldedSetIterable iter F.env x = pure x)
  (hiter : ∀ Q' : CR → Shared → Prop, Then w F ads s (fun r st' => match r with | .v x => ksrc x st' | _ => False) Q' → wpAny (model prog w) F.A (eval iter F.env) (fun v s' => Q' (.v v) s') E s)
  (hsrc : ∀ v st₁, ksrc v st₁ → ∃ all slot el test, srcT st₁ v = some (all, slot) ∧
   zBQ (zAN (zAu sc.names) tgt) test el v all slot st₁.led.length (st₁.led.length + 1) 0 all ⟨zBC st₁.loc sc.names, st₁.led ++ [slot 0, .list []]⟩ (fun stE => zAf st₁.loc st₁.led.length (st₁.led.length + 1) stE k) ∧
   (∀ F' : Fm, FmOk C F' → F'.A = F.A → F'.sc.names = zAu sc.names → EvOk w F' elt el ∧ IfsOk w F' ifs test))
  (hfin : ∀ (m1 z : Wd) (st' : St) (d : PyData) (a Cc : Addr) (s' : Shared), k (.dat d) st' → Nx F s s' → (∃ m, s'.heap.Ns Cc m) → F.L ≠ Cc → Rep w F (wa (wa ads m1) z) st' (hideAll s'.heap [Cc]) → Den F.B (wa (wa ads m1) z) (.dat d) (.ref a) →
   compPost (model prog w) F.A E use Q (.ref a) Cc (.ok .next) s') :
  wpAny (model prog w) F.A (comprehension (.ListComp elt [⟨tgt, iter, ifs, 0⟩] sc pos) sc F.env iter.pos (newList []) false (eval iter F.env) use) Q E s := by
 obtain ⟨hk, hn⟩ := zFW hsc
 refine wpAny_comprehension_free (g := ⟨tgt, iter, ifs, 0⟩) (gs := []) (cl := clOf F.env.cells sc.names []) rfl hset (zDE fun x hx hf => ok.cel2 x.1 ((hn x hx).2.2 hf).2) hk (fun x hx hl => (hn x hx).2.1 hl) ?_
 refine hiter (fun c s' => match c with
  | .v x => wpAny (model prog w) F.A (pyIter x) _ E s'
  | _ => False) ?_
 intro r st₁ m1 c s₁ h₁ R₁ x₁ d₁
 cases r with
 | v src =>
  cases c with
  | v u =>
   obtain ⟨all, slot, el, test, hs, hc, hev⟩ := hsrc src st₁ h₁
   refine zDP ok R₁ d₁ hs fun s₂ R₂ x₂ => ?_
   refine wpAny_newObj_type ?_
   generalize hp : s₁.heap.objs.size = I at R₂
   have R₃ : Rep w F (wa (wa (wa ads m1) (.one I 0)) (.one s₂.heap.objs.size 0)) { st₁ with led := st₁.led ++ [slot 0] ++ [.list []] } (s₂.heap.push { cls := .type "list", dict := none, data := .seq ([] : List Value).toArray }) :=
    zAr (st := { st₁ with led := st₁.led ++ [slot 0] }) (o := { cls := .type "list", dict := none, data := .seq ([] : List Value).toArray }) rfl R₂ (One.list (vs := []) (n := 0) .nil)
   generalize hs3 : ({ s₂ with heap := s₂.heap.push { cls := .type "list", dict := none, data := .seq ([] : List Value).toArray } } : Shared) = s₃
   have hh3 : s₃.heap = s₂.heap.push { cls := .type "list", dict := none, data := .seq ([] : List Value).toArray } := by rw [← hs3]
   have x₃ : Nx F s₂ s₃ := by rw [← hs3]; exact Nx.of_gens rfl rfl rfl
   rw [← hh3] at R₃
   have len1 : st₁.led.length = (wa ads m1).ads.length := zBI R₁
   refine wpAny_newFunctionEnv (fun x hx => (hn x hx).1) (by intro y hy; simp at hy) (fun h₁' hns hsb => ?_) hk
   obtain ⟨F', ok', eA, eE, ⟨eB, eQ⟩, eN, R₄, back, nsC⟩ := zKn ok hsc R₃ hns hsb
   obtain ⟨hel, hif⟩ := hev F' ok' eA eN
   show codeAny (model prog w) F.A (.compStart _ 0 (.ref I) (.ref s₂.heap.objs.size) (compEnvC sc (clOf F.env.cells sc.names []) s₃.heap.objs.size F.env)) (compPost (model prog w) F.A E use Q (.ref s₂.heap.objs.size) s₃.heap.objs.size) _
   rw [← eE, ← eA]
   let p := st₁.led.length
   have e12 : st₁.led ++ [slot 0] ++ [SO.list []] = st₁.led ++ [slot 0, .list []] := by simp
   rw [e12] at R₄ back
   have dI : Den F'.B (wa (wa (wa ads m1) (.one I 0)) (.one s₂.heap.objs.size 0)) (.obj p) (.ref I) := by
    refine Den.mono ⟨(I, 0), ?_, rfl⟩
    show (wa (wa ads m1) (Wd.one I 0)).ads[st₁.led.length]? = _
    rw [len1]; rw [Wd.ads_append]; simp [Wd.one]
   have dq : Den F'.B (wa (wa (wa ads m1) (.one I 0)) (.one s₂.heap.objs.size 0)) (.obj (p + 1)) (.ref s₂.heap.objs.size) := by
    refine ⟨(s₂.heap.objs.size, 0), ?_, rfl⟩
    have : st₁.led.length + 1 = (wa (wa ads m1) (Wd.one I 0)).ads.length := by rw [Wd.ads_append, List.length_append, ← len1]; rfl
    show (wa (wa (wa ads m1) (Wd.one I 0)) (Wd.one s₂.heap.objs.size 0)).ads[st₁.led.length + 1]? = _
    rw [this, Wd.ads_append]; simp [Wd.one]
   have hslot : (st₁.led ++ [slot 0, SO.list []])[p]? = some (slot 0) := by simp [p]
   have hsrc2 : SrcK ⟨zBC st₁.loc sc.names, st₁.led ++ [slot 0, .list []]⟩ src all slot ∧ srcT ⟨zBC st₁.loc sc.names, st₁.led ++ [slot 0, .list []]⟩ src = some (all, slot) := by
    have : srcT ⟨zBC st₁.loc sc.names, st₁.led ++ [slot 0, .list []]⟩ src = some (all, slot) := by
     cases src <;> first | exact hs | skip
     ·rename_i i
      replace hs : srcO (.obj i) st₁.led[i]? = some (all, slot) := hs
      have hlt : i < st₁.led.length := by
       cases q : st₁.led[i]? with
       | none => rw [q] at hs; cases hs
       | some o => exact (List.getElem?_eq_some_iff.mp q).1
      show srcO (.obj i) (st₁.led ++ [slot 0, SO.list []])[i]? = _
      rw [List.getElem?_append_left hlt]
      exact hs
    exact ⟨zBj this, this⟩
   have loop : ∀ s₄ : Shared, s₄.heap = h₁' → Nx F s s₄ → codeAny (model prog w) F'.A (.compLoop (.ListComp elt [⟨tgt, iter, ifs, 0⟩] sc pos) 0 (.ref I) (.ref s₂.heap.objs.size) F'.env) (compPost (model prog w) F'.A E use Q (.ref s₂.heap.objs.size) s₃.heap.objs.size) s₄ := by
    intro s₄ e4 x4
    refine zEy (F := F') ok' hel hif (p := p) (q := p + 1) (Nat.lt_succ_self _) all 0 _ _ s₄ (by rw [eN]; exact hc) rfl (by rw [e4]; exact R₄) dI dq fun more stE s₅ hf R₅ x₅ => ?_
    obtain ⟨ys, ds, st', hq, hy, hl, tr, hk'⟩ := hf
    rw [eA]
    obtain ⟨oL, hoL⟩ := zNx R₁
    obtain ⟨mC, hC⟩ := nsC _ _ _ R₅
    have W0 : (wa (wa (wa (wa ads m1) (.one I 0)) (.one s₂.heap.objs.size 0)) more) = (wa (wa ads m1) (wa (wa (Wd.one I 0) (.one s₂.heap.objs.size 0)) more)) := by simp only [Wd.append_assoc]
    have tr' : Trim (wa ads m1).ads.length ⟨st₁.loc, stE.led⟩ st' := by rw [← len1]; exact tr
    have fz : SvT (wa ads m1).ads.length stE.led (.obj (p + 1)) (svOf (.list ds)) := by
     refine .frz (.list (xs := ys) ?_ ?_ (zEm hy))
     ·rw [← len1, zOK (Nat.le_succ _)]; exact hq
     ·have : ys.length = ds.length := by
       have := FrzL.length (zEm (led := []) hy); exact this.symm
      omega
    have dq' : Den F.B (wa (wa ads m1) (wa (wa (Wd.one I 0) (.one s₂.heap.objs.size 0)) more)) (.obj (p + 1)) (.ref s₂.heap.objs.size) := by
     rw [← W0, ← eB]; exact dq.mono
    rw [W0] at R₅
    obtain ⟨z, R₆, den⟩ := zEO (st' := ⟨[], st'.led⟩) ok' R₅ ⟨(fun x y h => nomatch h), tr'.led⟩
    rw [eB] at den
    have bk : Rep w F (wa (wa ads m1) (⟨[], z⟩ : Wd)) st' (hideAll s₅.heap [s₃.heap.objs.size]) :=
     back _ [] st'.loc st'.led s₅.heap _ R₆ (fun b o hb e => hideAll_get _ e (by simpa using hb)) fun x y hx => by
      obtain ⟨z0, a, b⟩ := tr'.loc x y hx
      refine ⟨z0, a, fun v d => den z0 y v b ?_⟩
      rw [← W0]; exact d.mono
    exact hfin m1 ⟨[], z⟩ st' (.list ds) s₂.heap.objs.size s₃.heap.objs.size s₅ hk' (x4.trans (show NxB F.quiet s₄ s₅ by rw [← eQ]; exact x₅)) ⟨mC, hC⟩ (by
     obtain ⟨oL', hL'⟩ := zNx R₃
     exact Nat.ne_of_lt (Heap.lt_size hL')) bk (den _ _ _ fz dq')
   have x4 : ∀ h t, Nx F s ({ s₃ with heap := h, toks := t } : Shared) := fun h t => ((x₁.trans x₂).trans x₃).trans (Nx.of_gens rfl rfl rfl)
   refine codeAny_compStart_list (loop _ rfl (x4 _ _)) ?_
   refine zKb (s := { s₃ with heap := h₁', toks := _ }) ok' R₄ dI hslot hsrc2.2 ?_
   exact loop _ rfl (x4 _ _)
  | _ => exact d₁.elim
 | _ => exact h₁.elim
theorem zFX {st : St} {W : Wd} {h h'' : Heap} {Cc : Addr} (R : Rep w F W st (hideAll h [Cc])) (hs : Heap.SameBut Cc h h'') : Rep w F W st h'' := by
 refine zCn R fun b o e => ?_
 have hb : b ≠ Cc := fun q => by
  subst q
  rw [hideAll_none _ (by simp)] at e; cases e
 exact (hs.2 b hb).trans (of_hideAll _ e)
theorem zGJ {st : St} {x : Str} {v : SV} {u : Value} {W : Wd} {Cc : Addr} {Q : Unit → Shared → Prop} (ok : FmOk C F) (R : Rep w F W st (hideAll s.heap [Cc])) (hC : ∃ m, s.heap.Ns Cc m) (hne : F.L ≠ Cc) (d : Den F.B W v u) (hl : F.sc.names.lookup x = some .local)
  (h : ∀ h₁ t, (∃ m, h₁.Ns Cc m) → (∀ h'', Heap.SameBut Cc h₁ h'' → Rep w F W { st with loc := put x v st.loc } h'') → Q () { s with heap := h₁, toks := t }) : wpAny (model prog w) F.A (storeName F.env x u) Q E s := by
 obtain ⟨m, news, lw, X⟩ := R
 have notC : ∀ b o, (hideAll s.heap [Cc]).get? b = some o → b ≠ Cc := fun b o e q => by
  subst q
  rw [hideAll_none _ (by simp)] at e; cases e
 have nsL : s.heap.Ns F.L m := X.fr.ns.at' fun o q => of_hideAll _ q
 have ns : s.heap.Ns F.env.locals m := by rw [ok.loc]; exact nsL
 refine wpAny_storeName_local hl ns (fun h₁ hn hs => ?_) (by rw [show F.env.scope.kind = .function from ok.kind]; rfl)
 rw [ok.loc] at hn hs
 obtain ⟨mC, hmC⟩ := hC
 refine h h₁ _ ⟨mC, hmC.sameBut hs (Ne.symm hne)⟩ fun h'' hs'' => ?_
 have keep : ∀ b o, b ≠ F.L → (hideAll s.heap [Cc]).get? b = some o → h''.get? b = some o := fun b o hb e => (hs''.2 b (notC b o e)).trans ((hs.2 b hb).trans (of_hideAll _ e))
 refine ⟨_, news, lw, ⟨hn.sameBut hs'' hne, fun b o q => keep b o (fun e => ?_) (X.fr.keep b o q), X.fr.above⟩, fun p hp => ?_, ?_, X.led, X.nd, X.ups⟩
 ·subst e
  exact absurd (Heap.lt_size q) (Nat.not_lt.mpr X.fr.above)
 ·have z := X.nw p hp
  exact ⟨keep _ _ z.2.1 z.1, z.2⟩
 ·have e : locM F.env (fun y => if y = x then some u else m y) = fun y => if y = x then some u else locM F.env m y := by
   funext y
   unfold locM
   by_cases q : y = x
   ·subst q; rw [ok.cel y hl]
   ·simp only [if_neg q]
  rw [e]
  exact X.loc.set d
end
section
variable {w : World} {C : Cf} {F : Fm} {ads : Wd} {s : Shared} {st : St} {A : Around} {E : Value → Shared → Prop}
theorem zHo {o : Obj} {kvs : List (Str × Value)} (h : DicO w.params o kvs) : o.IsDictOf (strKind prog w) kvs := by
 obtain ⟨p', w', e, es, ep, h1, h2, h3, h4, h5⟩ := h
 have hh : ∀ x, hashStr w' x = hashStr w x := fun x => by unfold hashStr; rw [e]
 refine ⟨es, ep, h1, h2, ?_, ?_, h5⟩
 ·intro e he
  obtain ⟨k, a, b⟩ := h3 e he
  exact ⟨k, a, b.trans (hh k)⟩
 ·revert h4
  generalize es.toList = l
  intro h4
  clear h1 h2 h3 h5
  induction h4 with
  | nil => exact .nil
  | cons a b _ ih => exact .cons a b ih
theorem zPb {B : Heap} {G : Wd} {x : Str} {sv : SV} {v : Value} (d : Den B G sv v) : ∀ {fs : List (Str × SV)} {kvs : List (Str × Value)}, KvR B G fs kvs → (kvs.map (·.1)).Nodup → KvR B G (put x sv fs) (stored kvs x v)
 | _, _, .nil, _ => .cons d .nil
 | _, _, .cons (x := y) (v := u) (fs := fs) (kvs := kvs) d' r, nd => by
  rw [List.map_cons, List.nodup_cons] at nd
  unfold put
  cases q : Fast.sEq x y with
  | true =>
   have e := zAO q
   subst e
   have hno : ∀ p ∈ kvs, p.1 ≠ x := fun p hp e => nd.1 (List.mem_map.mpr ⟨p, hp, e⟩)
   have e2 : stored ((x, u) :: kvs) x v = (x, v) :: kvs := by
    unfold stored
    rw [if_pos (by simp), List.map_cons, if_pos rfl]
    congr 1
    conv => rhs; rw [← List.map_id kvs]
    refine List.map_congr_left fun p hp => ?_
    rw [if_neg (hno p hp)]; rfl
   rw [e2]
   exact .cons d r
  | false =>
   have hne : ¬ y = x := fun e => zAZ q e.symm
   have e2 : stored ((y, u) :: kvs) x v = (y, u) :: stored kvs x v := by
    unfold stored
    simp only [List.any_cons, decide_eq_false hne, Bool.false_or, List.map_cons, if_neg hne]
    split <;> rfl
   rw [e2]
   exact .cons d' (zPb d r nd.2)
theorem zRi {Q : Value → Shared → Prop} {env : Env} {pos : Pos} (R : Rep w F ads st s.heap) (hQ : ∀ s', Rep w F (wa ads (.one s.heap.objs.size 0)) { st with led := st.led ++ [.dic []] } s'.heap → Nx F s s' → Q (.ref s.heap.objs.size) s') : wpAny (model prog w) A (eval (.Dict [] [] pos) env) Q E s := by
 refine wpAny_Dict_empty (hQ _ (zAr rfl R (.dic (kvs := []) ⟨prog, w, rfl, ?_⟩ .nil)) (Nx.of_gens rfl rfl rfl))
 exact ⟨#[], 0, ⟨rfl, rfl, rfl⟩, rfl, (fun _ he => by simp at he), Pairs.nil, List.nodup_nil⟩
theorem zRh {i : Nat} {fs : List (Str × SV)} {x : Str} {t : Tok} {sv : SV} {u v : Value} {Q : Unit → Shared → Prop} (R : Rep w F ads st s.heap) (d : Den F.B ads (.obj i) u) (hi : st.led[i]? = some (.dic fs)) (dv : Den F.B ads sv v) (hl : fs.length ≤ sizeLine)
  (hQ : ∀ h' t', Rep w F ads { st with led := st.led.set i (.dic (put x sv fs)) } h' → Q () { s with heap := h', toks := t' }) : wpAny (model prog w) A (setItem u (.str x t) v) Q E s := by
 obtain ⟨m, news, lw, pre, ps, post, a, dd, X, h1, h2, h3, h4⟩ := zCq R hi
 obtain ⟨p, hp, rfl⟩ := d
 rw [h2] at hp; cases hp
 obtain ⟨o, kvs, hd, hk, rfl⟩ := h3.inv
 ·have hd' := zHo (w := w) hd
  have ho := (X.nw (a, o) (by rw [h1]; simp)).1
  refine wpAny_setItem_pairs (knd := strKind prog w) (hkey := strKind_is prog w x t) (Heap.dictOf_iff.mpr ⟨o, ho, hd'⟩) (fun h' hm hs => ?_) (by rw [hk.length]; exact hl)
  obtain ⟨o', ho', hd''⟩ := Heap.dictOf_iff.mp hm
  exact hQ h' _ (zCL X h1 (h4 _ _ (One.dic ⟨prog, w, rfl, hd''⟩ (zPb dv hk (by obtain ⟨_, _, _, _, _, _, nd⟩ := hd'; exact nd)))) ho' fun b hb o q => (hs.2 b hb).trans q)
end
set_option maxHeartbeats 1000000
theorem zPu {n : Nat} {loc more : List (Str × SV)} {led led' : List SO} (hl : okF n loc) (h : SosT n led (led.take n) led') : Trim n ⟨loc ++ more, led⟩ ⟨loc, led'⟩ :=
 ⟨fun x y hx => ⟨y, zEa hx, zGD (zEV hl _ (zCX hx))⟩, h⟩
theorem zJF {n : Nat} {led : List SO} : ∀ {a b c d : List SO}, SosT n led a b → SosT n led c d → SosT n led (a ++ c) (b ++ d) := by
 intro a b c d r h
 induction r with
 | nil => exact h
 | cons x _ ih => exact .cons x ih
theorem zBi (n : Nat) (led : List SO) : ∀ l : List PyData, SvsT n led (l.map svOf) (l.map svOf)
 | [] => .nil
 | d :: r => .cons (.same (by cases d <;> trivial)) (zBi n led r)
theorem zHc : ∀ l : List PyData, frzs (l.map svOf) = some l
 | [] => rfl
 | d :: r => by
  show (match frz1 (svOf d) with | some d => (match frzs (r.map svOf) with | some ds => some (d :: ds) | none => none) | none => none) = _
  rw [zMq, zHc r]
theorem zGh {bnd : SV → St → (St → Prop) → Prop} {test : Option (St → Kt → Prop)} {elt : St → Kt → Prop} {src : SV} {all : List SV} {slot : Nat → SO} {fl : List (Str × SV)} {pre : List SO} (loc : List (Str × SV)) (kk : SV → St → Prop) (g : Nat → Option PyData)
  (hpre : ∀ n led, pre.length ≤ n → SosT n led pre pre) (hfl : okF pre.length fl) (hloc : okF pre.length loc) (hslot : ∀ n led j, pre.length ≤ n → SoT n led (slot j) (slot j))
  (hsrc : ∀ a b, srcT ⟨fl, pre ++ [a, b]⟩ src = some (all, slot)) (hlen : all.length ≤ sizeLine)
  (step : ∀ i x zs (K : Kt) (D : St → Prop), all[i]? = some x → (∀ d, g i = some d → ∀ more extra, K (.v (svOf d)) ⟨fl ++ more, pre ++ (slot (i + 1) :: .list zs :: extra)⟩) → (g i = none → ∀ more extra, D ⟨fl ++ more, pre ++ (slot (i + 1) :: .list zs :: extra)⟩) →
   bnd x ⟨fl, pre ++ [slot (i + 1), .list zs]⟩ fun st₁ => zCA test st₁ fun c st₂ => ifT c (elt st₂ K) (D st₂))
  (hk : kk (.dat (.list ((List.range all.length).filterMap g))) ⟨loc, pre⟩) :
  zBQ bnd test elt src all slot pre.length (pre.length + 1) 0 all ⟨fl, pre ++ [slot 0, .list []]⟩ (fun stE => zAf loc pre.length (pre.length + 1) stE kk) := by
 have okm : ∀ {m n : Nat} {f : List (Str × SV)}, m ≤ n → okF m f → okF n f := by
  intro m n f hmn
  induction f with
  | nil => exact fun _ => trivial
  | cons p r ih =>
   obtain ⟨a, v⟩ := p
   refine fun h => ⟨?_, ih h.2⟩
   have h1 := h.1
   cases v <;> first | exact Nat.lt_of_lt_of_le h1 hmn | trivial
 have getp : ∀ (a : SO) (r : List SO), (pre ++ a :: r)[pre.length]? = some a := fun a r => by simp
 have getq : ∀ (a b : SO) (r : List SO), (pre ++ a :: b :: r)[pre.length + 1]? = some b := fun a b r => by
  rw [List.getElem?_append_right (by lia)]; simp
 have setp : ∀ (a b : SO) (r : List SO), (pre ++ a :: r).set pre.length b = pre ++ b :: r := fun a b r => by
  have e : ∀ (l : List SO), (l ++ a :: r).set l.length b = l ++ b :: r := fun l => by
   induction l with
   | nil => rfl
   | cons y l ih => show y :: (l ++ a :: r).set l.length b = _; rw [ih]; rfl
  exact e pre
 have setq : ∀ (a b c : SO) (r : List SO), (pre ++ a :: b :: r).set (pre.length + 1) c = pre ++ a :: c :: r := fun a b c r => by
  have e : ∀ (l : List SO), (l ++ a :: b :: r).set (l.length + 1) c = l ++ a :: c :: r := fun l => by
   induction l with
   | nil => rfl
   | cons y l ih => show y :: (l ++ a :: b :: r).set (l.length + 1) c = _; rw [ih]; rfl
  exact e pre
 have loop : ∀ (rest : List SV) (j : Nat) (done : List PyData), (∀ i, rest[i]? = all[j + i]?) → j + rest.length = all.length → done = (List.range j).filterMap g → done.length ≤ j →
   zBQ bnd test elt src all slot pre.length (pre.length + 1) j rest ⟨fl, pre ++ [slot j, .list (done.map svOf)]⟩ (fun stE => zAf loc pre.length (pre.length + 1) stE kk) := by
  intro rest
  induction rest with
  | nil =>
   intro j done h1 h2 h3 h4
   have hj : j = all.length := by simpa using h2
   refine ⟨getp _ _, hsrc _ _, ?_⟩
   show zAf loc pre.length (pre.length + 1) ⟨fl, (pre ++ [slot j, .list (done.map svOf)]).set pre.length .gone⟩ kk
   rw [setp]
   refine ⟨done.map svOf, done, ⟨loc, pre⟩, getq _ _ _, zHc _, by lia, ?_, ?_⟩
   ·have := zPu (n := pre.length) (loc := loc) (more := []) (led := pre ++ [.gone, .list (done.map svOf)]) (led' := pre) hloc (by rw [List.take_left]; exact hpre _ _ (Nat.le_refl _))
    rw [List.append_nil] at this
    exact this
   ·rw [h3, hj]; exact hk
  | cons x r ih =>
   intro j done h1 h2 h3 h4
   rw [List.length_cons] at h2
   refine ⟨getp _ _, hsrc _ _, ?_⟩
   show bnd x ⟨fl, (pre ++ [slot j, .list (done.map svOf)]).set pre.length (slot (j + 1))⟩ _
   rw [setp]
   have hx : all[j]? = some x := by have := h1 0; simpa using this.symm
   have hlen2 : (pre ++ [slot j, SO.list (done.map svOf)]).length = pre.length + 2 := by simp
   refine step j x (done.map svOf) _ _ hx (fun d hd more extra => ?_) fun hd more extra => ?_
   ·show appT (pre.length + 1) (svOf d) ⟨fl ++ more, pre ++ (slot (j + 1) :: .list (done.map svOf) :: extra)⟩ _
    show zLr (pre ++ slot (j + 1) :: .list (done.map svOf) :: extra)[pre.length + 1]? _
    rw [getq]
    refine ⟨by rw [List.length_map]; lia, ⟨fl, pre ++ [slot (j + 1), .list ((done ++ [d]).map svOf)]⟩, ?_, ?_⟩
    ·show Trim (pre ++ [slot j, SO.list (done.map svOf)]).length ⟨fl ++ more, (pre ++ slot (j + 1) :: .list (done.map svOf) :: extra).set (pre.length + 1) (.list (done.map svOf ++ [svOf d]))⟩ _
     rw [setq, hlen2]
     have e1 : done.map svOf ++ [svOf d] = (done ++ [d]).map svOf := by simp
     rw [e1]
     refine zPu (okm (by lia) hfl) ?_
     have e2 : List.take (pre.length + 2) (pre ++ slot (j + 1) :: SO.list ((done ++ [d]).map svOf) :: extra) = pre ++ [slot (j + 1), .list ((done ++ [d]).map svOf)] := by
      rw [List.take_append, List.take_of_length_le (by lia), show pre.length + 2 - pre.length = 2 by lia]; rfl
     rw [e2]
     exact zJF (hpre _ _ (by lia)) (.cons (hslot _ _ _ (by lia)) (.cons (.list (zBi _ _ _)) .nil))
    ·refine ih (j + 1) (done ++ [d]) (fun i => ?_) (by lia) ?_ (by simp; lia)
     ·have := h1 (i + 1)
      rw [List.getElem?_cons_succ] at this
      rw [this]; congr 1; lia
     ·rw [List.range_succ, List.filterMap_append, ← h3]
      simp [hd]
   ·refine ⟨⟨fl, pre ++ [slot (j + 1), .list (done.map svOf)]⟩, ?_, ?_⟩
    ·show Trim (pre ++ [slot j, SO.list (done.map svOf)]).length ⟨fl ++ more, pre ++ slot (j + 1) :: .list (done.map svOf) :: extra⟩ _
     rw [hlen2]
     refine zPu (okm (by lia) hfl) ?_
     have e2 : List.take (pre.length + 2) (pre ++ slot (j + 1) :: SO.list (done.map svOf) :: extra) = pre ++ [slot (j + 1), .list (done.map svOf)] := by
      rw [List.take_append, List.take_of_length_le (by lia), show pre.length + 2 - pre.length = 2 by lia]; rfl
     rw [e2]
     exact zJF (hpre _ _ (by lia)) (.cons (hslot _ _ _ (by lia)) (.cons (.list (zBi _ _ _)) .nil))
    ·refine ih (j + 1) done (fun i => ?_) (by lia) ?_ (by lia)
     ·have := h1 (i + 1)
      rw [List.getElem?_cons_succ] at this
      rw [this]; congr 1; lia
     ·rw [List.range_succ, List.filterMap_append, ← h3]
      simp [hd]
 exact loop all 0 [] (fun i => by simp) (by simp) rfl (Nat.le_refl _)
set_option maxHeartbeats 200000
noncomputable def zDm (x : SV) : Option Str := match x with
 | .str s => some s
 | .sg c _ _ => some (sgS c)
 | _ => none
noncomputable def addT (x y : SV) (k : SV → Prop) : Prop := match x with
 | .int a => match y with
  | .int b => k (.int (a + b))
  | _ => False
 | _ => zBM (zDm x) fun a => zBM (zDm y) fun b => a.length + b.length ≤ sizeLine ∧ k (.str (a ++ b))
noncomputable def binT (op : Operator) (x y : SV) (k : SV → Prop) : Prop := match op with
 | .Add => addT x y k
 | .Sub => match x, y with
  | .int a, .int b => k (.int (a - b))
  | _, _ => False
 | .Mod => match x, y with
  | .int a, .int b => b ≠ 0 ∧ k (.int (a.fmod b))
  | _, _ => False
 | .FloorDiv => match x, y with
  | .int a, .int b => (b ≠ 0 ∧ b.natAbs < 1073741824) ∧ k (.int (a.fdiv b))
  | _, _ => False
 | _ => False
noncomputable def zLP (a : Str) : List SV → Option Bool
 | [] => some false
 | .str b :: r => (zLP a r).map fun c => (b == a) || c
 | _ => none
noncomputable def eqS (x y : SV) : Option Bool := match x with
 | .sg c es _ => match y with
  | .str b => match lk b es with
   | some r => some r
   | none => some (Fast.sEq (sgS c) b)
  | _ => none
 | .str a => match y with
  | .sg c es _ => match lk a es with
   | some r => some r
   | none => some (Fast.sEq a (sgS c))
  | .str b => some (Fast.sEq a b)
  | _ => none
 | _ => none
noncomputable def inS (x y : SV) : Option Bool := match y with
 | .str b => match x with
  | .sg c _ fs => match lk b fs with
   | some r => some r
   | none => some (inB (sgS c) b)
  | .str a => some (inB a b)
  | _ => none
 | _ => none
noncomputable def eqT (x y : SV) : Option Bool := match x with
 | .int a => match y with
  | .int b => some (a == b)
  | _ => none
 | .none => match y with
  | .none => some true
  | .str _ => some false
  | _ => none
 | .str a => match y with
  | .none => some false
  | _ => eqS (.str a) y
 | .sg c es fs => match y with
  | .none => some false
  | _ => eqS (.sg c es fs) y
 | _ => none
noncomputable def isNT (x y : SV) : Option Bool := match y with
 | .none => match x with
  | .none => some true
  | .str _ => some false
  | .sg .. => some false
  | .int _ => some false
  | .bool _ => some false
  | .obj _ => some false
  | _ => none
 | .val v => match v with
  | .type b => match x with
   | .val u => match u with
    | .type a => some (Value.type a == Value.type b)
    | _ => none
   | _ => none
  | _ => none
 | _ => none
noncomputable def onO (o : Option Bool) (k : Bool → Prop) : Prop := match o with
 | some c => k c
 | none => False
noncomputable def cmpT (st : St) (op : CmpOp) (x y : SV) (k : Bool → Prop) : Prop := match op with
 | .Eq => onO (eqT x y) k
 | .NotEq => match x with
  | .int a => match y with
   | .int b => k (a != b)
   | _ => False
  | _ => onO (eqS x y) fun b => k (!b)
 | .In => match y with
  | .obj i => match x with
   | .str a => zSL st.led[i]? fun xs => onO (zLP a xs) k
   | _ => False
  | _ => onO (inS x y) k
 | .NotIn => onO (inS x y) fun b => k (!b)
 | .Is => onO (isNT x y) k
 | .IsNot => onO (isNT x y) fun b => k (!b)
 | .GtE => match x with
  | .int a => match y with
   | .int b => k (decide (b ≤ a))
   | _ => False
  | _ => False
 | .Gt => match x with
  | .int a => match y with
   | .int b => k (decide (b < a))
   | _ => False
  | _ => False
 | .Lt => match x with
  | .int a => match y with
   | .int b => k (decide (a < b))
   | _ => False
  | _ => False
 | _ => False
noncomputable abbrev zBR (a b : Value) : Obj := { cls := .type "collections.deque", data := .fields #[a, b] }
noncomputable def zMY (o : Obj) : Bool := match o.cls with
 | .type c => match o.dict with
  | none => match o.data with
   | .fields vs => match vs.toList with
    | [] => false
    | _ :: r => match r with
     | [] => false
     | _ :: r => match r with
      | [] => match o.slots.toList with
       | [] => c == "collections.deque"
       | _ :: _ => false
      | _ :: _ => false
   | _ => false
  | some _ => false
 | _ => false
noncomputable def zCV (st : St) (x : SV) (k : Bool → Prop) : Prop := match x with
 | .none => k false
 | .bool b => k b
 | .int i => k (i != 0)
 | .str s => k ((s.length : Int) != 0)
 | .sg .. => k true
 | .obj i => zSN st.led[i]? fun o => onTr (zMY o) (k false)
 | _ => False
section ops
variable {w : World} {F : Fm} {E : Value → Shared → Prop} {s : Shared} {ads : Wd} {st : St}
theorem zCj {B : Heap} {x : SV} {v : Value} {a : Str} (d : Den B ads x v) (h : zDm x = some a) : (∃ t, v = .str a t) ∧ a.length ≤ sizeLine := by
 cases x <;> first | exact zAR h | (obtain rfl := Option.some.inj h)
 ·exact d
 ·exact ⟨d.1, by rw [zBU, sizeLine_eq]; lia⟩
theorem zFx {x y : SV} {k : SV → Prop} (h : addT x y k) : (∃ a b, x = .int a ∧ y = .int b ∧ k (.int (a + b))) ∨ (∃ a b, zDm x = some a ∧ zDm y = some b ∧ a.length + b.length ≤ sizeLine ∧ k (.str (a ++ b))) := by
 have fin : zBM (zDm x) (fun a => zBM (zDm y) fun b => a.length + b.length ≤ sizeLine ∧ k (.str (a ++ b))) → (∃ a b, zDm x = some a ∧ zDm y = some b ∧ a.length + b.length ≤ sizeLine ∧ k (.str (a ++ b))) := fun h => by
  obtain ⟨a, ha, h⟩ := zAK h
  obtain ⟨b, hb, h⟩ := zAK h
  exact ⟨a, b, ha, hb, h⟩
 cases x <;> first | exact .inr (fin h) | skip
 cases y <;> first | exact False.elim h | exact .inl ⟨_, _, rfl, rfl, h⟩
theorem zFG {B : Heap} {A : Around} {x y : SV} {a b : Value} {k : SV → Prop} {Q : Value → Shared → Prop} (dx : Den B ads x a) (dy : Den B ads y b) (h : addT x y k)
  (hQ : ∀ r v t, k r → Den B ads r v → Q v { s with toks := t }) : wpAny (model prog w) A (binaryOp .Add a b) Q E s := by
 rcases zFx h with ⟨a, b, rfl, rfl, h⟩ | ⟨a, b, ha, hb, h⟩
 ·obtain ⟨t, rfl⟩ := dx; obtain ⟨u, rfl⟩ := dy
  exact PyProof.Rows.add_int (hQ _ _ _ h ⟨_, rfl⟩)
 ·obtain ⟨⟨t, rfl⟩, lx⟩ := zCj dx ha; obtain ⟨⟨u, rfl⟩, ly⟩ := zCj dy hb
  exact SBL.add (fun t' kk hl => hQ _ _ _ h.2 ⟨⟨_, rfl⟩, Nat.le_trans hl.2 h.1⟩) h.1
theorem zFj {B : Heap} {A : Around} {x y : SV} {a b : Value} {k : SV → Prop} {Q : Value → Shared → Prop} (dx : Den B ads x a) (dy : Den B ads y b) (h : addT x y k)
  (hQ : ∀ r v t, k r → Den B ads r v → Q v { s with toks := t }) : wpAny (model prog w) A (inplaceOp .Add a b) Q E s := by
 rcases zFx h with ⟨a, b, rfl, rfl, h⟩ | ⟨a, b, ha, hb, h⟩
 ·obtain ⟨t, rfl⟩ := dx; obtain ⟨u, rfl⟩ := dy
  exact iadd_int (hQ _ _ _ h ⟨_, rfl⟩)
 ·obtain ⟨⟨t, rfl⟩, lx⟩ := zCj dx ha; obtain ⟨⟨u, rfl⟩, ly⟩ := zCj dy hb
  exact SBL.iadd (fun t' kk hl => hQ _ _ _ h.2 ⟨⟨_, rfl⟩, Nat.le_trans hl.2 h.1⟩) h.1
theorem zJL (a b : Str) : Fast.sEq a b = Fast.sEq b a := by
 rw [← zBX, ← zBX]; exact Bool.beq_comm
theorem zBr {o : Option Bool} {k : Bool → Prop} (h : onO o k) : ∃ c, o = some c ∧ k c := by
 cases o with
 | none => exact h.elim
 | some c => exact ⟨c, rfl, h⟩
theorem zQz {es : List (Str × Bool)} {x : Str} {d c r : Bool} (h : (match lk x es with | some r => some r | none => some d) = some c) (e : ∀ p ∈ es, p.1 = x → r = p.2) (hd : r = d) : r = c := by
 cases q : lk x es with
 | some u => rw [q] at h; obtain rfl := Option.some.inj h; exact e _ (zCX q) rfl
 | none => rw [q] at h; obtain rfl := Option.some.inj h; exact hd
theorem zHh {B : Heap} {x y : SV} {a b : Value} {c : Bool} (dx : Den B ads x a) (dy : Den B ads y b) (h : eqS x y = some c) : ∃ u v t t', a = .str u t ∧ b = .str v t' ∧ (u == v) = c := by
 cases x <;> first | exact zAR h | skip
 ·cases y <;> first | exact zAR h | skip
  ·obtain ⟨⟨t, rfl⟩, _⟩ := dx
   obtain ⟨⟨t', rfl⟩, _⟩ := dy
   obtain rfl := Option.some.inj h
   exact ⟨_, _, t, t', rfl, rfl, zBX _ _⟩
  ·obtain ⟨⟨t, rfl⟩, _⟩ := dx
   obtain ⟨⟨t', rfl⟩, e1, _⟩ := dy
   refine ⟨_, _, t, t', rfl, rfl, ?_⟩
   rw [zBX]
   exact zQz h (fun p hp e => by rw [← e, zJL]; exact e1 p hp) rfl
 ·cases y <;> first | exact zAR h | skip
  obtain ⟨⟨t, rfl⟩, e1, _⟩ := dx
  obtain ⟨⟨t', rfl⟩, _⟩ := dy
  refine ⟨_, _, t, t', rfl, rfl, ?_⟩
  rw [zBX]
  exact zQz h (fun p hp e => by rw [← e]; exact e1 p hp) rfl
theorem zHX {B : Heap} {x y : SV} {a b : Value} {c : Bool} (dx : Den B ads x a) (dy : Den B ads y b) (h : inS x y = some c) : ∃ u v t t', a = .str u t ∧ b = .str v t' ∧ inB u v = c := by
 cases y <;> first | exact zAR h | skip
 obtain ⟨⟨t', rfl⟩, _⟩ := dy
 cases x <;> first | exact zAR h | skip
 ·obtain ⟨⟨t, rfl⟩, _⟩ := dx
  obtain rfl := Option.some.inj h
  exact ⟨_, _, t, t', rfl, rfl, rfl⟩
 ·obtain ⟨⟨t, rfl⟩, _, e1⟩ := dx
  exact ⟨_, _, t, t', rfl, rfl, zQz h (fun p hp e => by rw [← e]; exact e1 p hp) rfl⟩
theorem zFh {B : Heap} {x y : SV} {a b : Value} {c : Bool} (dx : Den B ads x a) (dy : Den B ads y b) (h : isNT x y = some c) : PySem.plainIs a b = true ∧ (a == b) = c := by
 cases y <;> first | exact zAR h | skip
 ·obtain rfl := dy
  cases x <;> first | exact zAR h | (obtain rfl := Option.some.inj h)
  ·obtain rfl := dx; exact ⟨rfl, rfl⟩
  ·obtain rfl := dx; exact ⟨rfl, rfl⟩
  ·obtain ⟨t, rfl⟩ := dx; exact ⟨rfl, rfl⟩
  ·obtain ⟨⟨t, rfl⟩, _⟩ := dx; exact ⟨rfl, rfl⟩
  ·obtain ⟨p, _, rfl⟩ := dx; exact ⟨rfl, rfl⟩
  ·obtain ⟨⟨t, rfl⟩, _⟩ := dx; exact ⟨rfl, rfl⟩
 ·obtain ⟨rfl, _⟩ := dy
  cases b <;> first | exact zAR h | skip
  cases x <;> first | exact zAR h | skip
  obtain ⟨rfl, _⟩ := dx
  cases a <;> first | exact zAR h | skip
  exact ⟨rfl, Option.some.inj h⟩
theorem zMt {B : Heap} {x y : SV} {a b : Value} {c : Bool} {A : Around} {Q : Value → Shared → Prop} (dx : Den B ads x a) (dy : Den B ads y b) (h : eqT x y = some c) (hq : Q (.bool c) s) : wpAny (model prog w) A (compareOp .Eq a b) Q E s := by
 have fin : eqS x y = some c → wpAny (model prog w) A (compareOp .Eq a b) Q E s := fun h => by
  obtain ⟨u, v, t, t', rfl, rfl, e⟩ := zHh dx dy h
  exact eq_str (by rw [e]; exact hq)
 cases x <;> first | exact zAR h | skip
 ·obtain rfl := dx
  cases y <;> first | exact zAR h | (obtain rfl := Option.some.inj h)
  ·obtain rfl := dy; exact EqNone.eq_none_none hq
  ·obtain ⟨⟨u, rfl⟩, _⟩ := dy; exact EqNone.eq_none_str hq
 ·obtain ⟨t, rfl⟩ := dx
  cases y <;> first | exact zAR h | (obtain rfl := Option.some.inj h)
  obtain ⟨u, rfl⟩ := dy; exact PyProof.Rows.eq_int hq
 ·cases y <;> first | exact zAR h | exact fin h | (obtain rfl := Option.some.inj h)
  obtain ⟨⟨t, rfl⟩, _⟩ := dx; obtain rfl := dy; exact EqNone.eq_str_none hq
 ·cases y <;> first | exact zAR h | exact fin h | (obtain rfl := Option.some.inj h)
  obtain ⟨⟨t, rfl⟩, _⟩ := dx; obtain rfl := dy; exact EqNone.eq_str_none hq
theorem zNF {B : Heap} {A : Around} {op : Operator} {x y : SV} {a b : Value} {k : SV → Prop} {Q : Value → Shared → Prop} (dx : Den B ads x a) (dy : Den B ads y b) (h : binT op x y k)
  (hQ : ∀ r v t, k r → Den B ads r v → Q v { s with toks := t }) : wpAny (model prog w) A (binaryOp op a b) Q E s := by
 cases op <;> try exact h.elim
 ·exact zFG dx dy h hQ
 ·cases x <;> first | exact False.elim h | skip
  cases y <;> first | exact False.elim h | skip
  obtain ⟨t, rfl⟩ := dx; obtain ⟨u, rfl⟩ := dy
  exact sub_int (hQ _ _ _ h ⟨_, rfl⟩)
 ·cases x <;> first | exact False.elim h | skip
  cases y <;> first | exact False.elim h | skip
  obtain ⟨t, rfl⟩ := dx; obtain ⟨u, rfl⟩ := dy
  exact mod_int' h.1 (hQ _ _ _ h.2 ⟨_, rfl⟩)
 ·cases x <;> first | exact False.elim h | skip
  cases y <;> first | exact False.elim h | skip
  obtain ⟨t, rfl⟩ := dx; obtain ⟨u, rfl⟩ := dy
  exact floordiv_int h.1.1 (hQ _ _ _ h.2 ⟨_, rfl⟩) (.inl (PyProof.noPylong_small h.1.2))
theorem zGt {B : Heap} {a : Str} : ∀ {xs : List SV} {vs : List Value} {b : Bool}, DenL B ads xs vs → zLP a xs = some b → ∃ ys, StrsAre vs ys ∧ ys.any (· == a) = b := by
 intro xs vs b D
 induction D generalizing b with
 | nil => exact fun h => ⟨[], .nil, Option.some.inj h⟩
 | @cons x _ xs _ d r ih =>
  intro h
  cases x with
  | str y =>
   obtain ⟨c, h1, h2⟩ := Option.map_eq_some_iff.mp h
   obtain ⟨ys, e1, e2⟩ := ih h1
   obtain ⟨⟨t, rfl⟩, _⟩ := d
   exact ⟨y :: ys, .cons y t e1, by rw [List.any_cons, e2]; exact h2⟩
  | _ => cases h
theorem zHs {op : CmpOp} {x y : SV} {a b : Value} {k : Bool → Prop} {Q : Value → Shared → Prop} (R : Rep w F ads st s.heap) (dx : Den F.B ads x a) (dy : Den F.B ads y b) (h : cmpT st op x y k)
  (hQ : ∀ c t, k c → Q (.bool c) { s with toks := t }) : wpAny (model prog w) F.A (compareOp op a b) Q E s := by
 have hq : ∀ c, k c → Q (.bool c) s := fun c hc => hQ c s.toks hc
 cases op with
 | Eq =>
  obtain ⟨c, e, h⟩ := zBr h
  exact zMt dx dy e (hq _ h)
 | NotEq =>
  have fin : onO (eqS x y) (fun b => k (!b)) → wpAny (model prog w) F.A (compareOp .NotEq a b) Q E s := fun h => by
   obtain ⟨c, hc, h⟩ := zBr h
   obtain ⟨u, v, t, t', rfl, rfl, e⟩ := zHh dx dy hc
   exact ne_str (by rw [bne, e]; exact hq _ h)
  cases x <;> first | exact fin h | skip
  cases y <;> first | exact h.elim | skip
  obtain ⟨t, rfl⟩ := dx; obtain ⟨u, rfl⟩ := dy; exact ne_int (hq _ h)
 | Lt =>
  cases x <;> first | exact False.elim h | skip
  cases y <;> first | exact False.elim h | skip
  obtain ⟨t, rfl⟩ := dx; obtain ⟨u, rfl⟩ := dy; exact PyProof.Rows.lt_int (hq _ h)
 | Gt =>
  cases x <;> first | exact False.elim h | skip
  cases y <;> first | exact False.elim h | skip
  obtain ⟨t, rfl⟩ := dx; obtain ⟨u, rfl⟩ := dy; exact gt_int (hq _ h)
 | GtE =>
  cases x <;> first | exact False.elim h | skip
  cases y <;> first | exact False.elim h | skip
  obtain ⟨t, rfl⟩ := dx; obtain ⟨u, rfl⟩ := dy; exact ge_int (hq _ h)
 | Is =>
  obtain ⟨c, hc, h⟩ := zBr h
  obtain ⟨e1, e2⟩ := zFh dx dy hc
  exact wpAny_is_plain e1 (by rw [e2]; exact hq _ h)
 | IsNot =>
  obtain ⟨c, hc, h⟩ := zBr h
  obtain ⟨e1, e2⟩ := zFh dx dy hc
  exact wpAny_isNot_plain e1 (by rw [e2]; exact hq _ h)
 | In =>
  have fin : onO (inS x y) k → wpAny (model prog w) F.A (compareOp .In a b) Q E s := fun h => by
   obtain ⟨c, hc, h⟩ := zBr h
   obtain ⟨u, v, t, t', rfl, rfl, e⟩ := zHX dx dy hc
   exact in_str (by unfold inB at e; rw [e]; exact hq _ h)
  cases y <;> first | exact fin h | skip
  cases x <;> first | exact False.elim h | skip
  obtain ⟨xs, hi, h⟩ := zKO h
  obtain ⟨c, hc, h⟩ := zBr h
  obtain ⟨m, news, lw, X⟩ := R
  obtain ⟨pre, ps, post, p, d, h1, h2, h3, _⟩ := X.led.at hi
  obtain ⟨vs, n, D, rfl⟩ := h3.inv
  obtain ⟨⟨t, rfl⟩, _⟩ := dx
  obtain ⟨q, hq1, rfl⟩ := dy
  rw [h2] at hq1
  obtain rfl := Option.some.inj hq1
  obtain ⟨ys, e1, e2⟩ := zGt D hc
  have ho := (X.nw (p, tupO vs n) (by rw [h1]; simp)).1
  exact in_tuple_strs (ys := ys) (items := vs.toArray) ⟨_, ho, rfl, n, rfl⟩ (by simpa using e1) (by rw [e2]; exact hq _ h)
 | NotIn =>
  obtain ⟨c, hc, h⟩ := zBr h
  obtain ⟨u, v, t, t', rfl, rfl, e⟩ := zHX dx dy hc
  exact notIn_str (by unfold inB at e; rw [e]; exact hq _ h)
 | LtE => exact False.elim h
theorem zKd {o : Obj} (h : zMY o = true) : ∃ a b, o = zBR a b := by
 obtain ⟨c, d, e, ⟨sl⟩⟩ := o
 cases c <;> first | exact Bool.noConfusion h | skip
 cases d <;> first | exact Bool.noConfusion h | skip
 cases e <;> first | exact Bool.noConfusion h | skip
 rename_i vs
 obtain ⟨vs⟩ := vs
 cases vs with
 | nil => exact Bool.noConfusion h
 | cons a r =>
 cases r with
 | nil => exact Bool.noConfusion h
 | cons b r =>
 cases r <;> first | exact Bool.noConfusion h | skip
 cases sl <;> first | exact Bool.noConfusion h | skip
 exact ⟨a, b, by rw [eq_of_beq h]⟩
theorem zDb : typeLookup (.type "collections.deque") "__bool__" = pure none := by rw [typeLookup_type, builtinLookup_eq_fast]; kernel_rfl
theorem slot_deque_len : Slot "collections.deque" "__len__" "collections.deque.__len__" :=
 .of (owner := "collections.deque") (n := "__len__") (by rw [typeLookup_type, builtinLookup_eq_fast]; kernel_rfl) (by decide +kernel) (by decide +kernel) (by decide +kernel)
  (by first | exact .inl (by decide +kernel) | exact .inr (by decide +kernel)) (by rw [isSubtype_type]; kernel_rfl)
theorem zEv : entryFor table "collections.deque.__len__" = some Builtin.«collections.deque.__len__» := entryFor_of_tree (by kernel_rfl)
theorem zFN (a : Value) : argsOk "collections.deque.__len__" ⟨[a], []⟩ := by unfold argsOk; kernel_rfl
theorem zFM {A : Around} {l : Addr} {x y : Value} {Q : Value → Shared → Prop} (ho : s.heap.get? l = some (zBR x y))
  (h : Q (.int 0 (s.toks + 1)) { s with toks := s.toks + 1 + 1 }) : wpAny (model prog w) A (Builtin.«len» ⟨[.ref l], []⟩) (fun fin s' => ∃ r, fin = .done (.ret r) ∧ Q r s') E s := by
 have hT : s.TypeIs (.ref l) "collections.deque" := ⟨_, ho, rfl⟩
 unfold Builtin.«len»
 refine wpAny_bind (m := oneArg "len" _) (wpAny_pure ?_)
 refine wpAny_bind (m := callSpecial? (.ref l) (Str.ofString "__len__")) (wpAny_callSpecial?_slot (name := Str.ofString "__len__") hT slot_deque_len
  (wpAny_call_entry slot_deque_len hT zEv ?_ (zFN _)))
 ·show wpAny _ _ (do retInt (← Builtin.Deque.size (.ref l))) _ _ s
  unfold Builtin.Deque.size
  refine wpAny_bind (wpAny_bind (wpAny_fieldsOf ho rfl (wpAny_pure ?_)))
  refine wpAny_bind (wpAny_mkInt (wpAny_pure ⟨_, rfl, ?_⟩))
  refine wpAny_bind (wpAny_holding (wpAny_pure ?_))
  refine wpAny_bind (wpAny_letGo ?_)
  show wpAny _ _ (if ((0 : Nat) : Int) < 0 then _ else _) _ _ _
  rw [if_neg (by lia)]
  show wpAny _ _ (if ((0 : Nat) : Int) ≥ 2 ^ 63 then _ else _) _ _ _
  rw [if_neg (by lia)]
  exact wpAny_bind (wpAny_mkInt (wpAny_pure ⟨_, rfl, h⟩))
theorem zIC {A : Around} {a : Addr} {x y : Value} {Q : Bool → Shared → Prop} (ho : s.heap.get? a = some (zBR x y)) (hQ : Q false { s with toks := s.toks + 1 + 1 }) : wpAny (model prog w) A (truthy (.ref a)) Q E s := by
 have hT : s.TypeIs (.ref a) "collections.deque" := ⟨_, ho, rfl⟩
 have key : wpAny (model prog w) A (runValue (.builtin "len" ⟨[.ref a], []⟩)) (fun r s' => r = .int 0 (s.toks + 1) ∧ Q false s') E s := by
  refine wpAny_runValue (codeAny_builtin entry_len ?_)
  rw [Around.under_plainId plain_len _]
  exact wpAny_mono (zFM (Q := fun r s' => r = .int 0 (s.toks + 1) ∧ Q false s') ho ⟨rfl, hQ⟩)
   (fun fin s' h' => by obtain ⟨r, rfl, hq⟩ := h'; exact hq) fun _ _ e => e
 unfold truthy
 first
  | refine wpAny_bind (wpAny_callSpecial?_none (name := Str.ofString "__bool__") hT zDb ?_)
  | refine wpAny_bind (wpAny_pure (wpAny_bind (wpAny_callSpecial?_none (name := Str.ofString "__bool__") hT zDb ?_)))
 first
  | refine wpAny_bind (wpAny_specialOf (name := Str.ofString "__len__") hT slot_deque_len.lookup ?_)
  | refine wpAny_bind (wpAny_pure (wpAny_bind (wpAny_specialOf (name := Str.ofString "__len__") hT slot_deque_len.lookup ?_)))
 first
  | exact wpAny_bind (wpAny_mono key (fun r s' h' => by obtain ⟨rfl, hq⟩ := h'; exact wpAny_pure hq) fun _ _ e => e)
  | exact wpAny_bind (wpAny_pure (wpAny_bind (wpAny_mono key (fun r s' h' => by obtain ⟨rfl, hq⟩ := h'; exact wpAny_pure hq) fun _ _ e => e)))
theorem zCa {x : SV} {a : Value} {k : Bool → Prop} {Q : Bool → Shared → Prop} (R : Rep w F ads st s.heap) (dx : Den F.B ads x a) (h : zCV st x k) (hQ : ∀ c t, k c → Q c { s with toks := t }) : wpAny (model prog w) F.A (truthy a) Q E s := by
 cases x <;> try exact h.elim
 ·cases dx; exact truthy_none (hQ _ s.toks h)
 ·cases dx; exact wpAny_truthy_bool (hQ _ s.toks h)
 ·obtain ⟨t, rfl⟩ := dx; exact truthy_int (hQ _ s.toks h)
 ·obtain ⟨⟨t, rfl⟩, l⟩ := dx
  exact SBL.truthy (by rw [sizeLine_eq] at l; lia) (hQ _ _ h)
 ·rename_i i
  obtain ⟨o, hi, h⟩ := zKQ h
  obtain ⟨hd, h⟩ := zAp h
  obtain ⟨x, y, rfl⟩ := zKd hd
  obtain ⟨m, news, lw, X⟩ := R
  obtain ⟨pre, ps, post, p, d, h1, h2, h3, _⟩ := X.led.at hi
  obtain rfl := h3.inv
  obtain ⟨q, hq1, rfl⟩ := dx
  rw [h2] at hq1
  cases hq1
  exact zIC (X.nw (p, zBR x y) (by rw [h1]; simp)).1 (hQ _ _ h)
 ·obtain ⟨⟨t, rfl⟩, _⟩ := dx
  exact SBL.truthy (by rw [zBU]; lia) (hQ _ _ h)
end ops
noncomputable abbrev onFa (b : Bool) (p : Prop) : Prop := match b with
 | true => False
 | false => p
theorem zCu {b : Bool} {p : Prop} (h : onFa b p) : b = false ∧ p := by
 cases b with
 | true => exact h.elim
 | false => exact ⟨rfl, h⟩
noncomputable abbrev onNo {α : Type} (o : Option α) (p : Prop) : Prop := match o with
 | some _ => False
 | none => p
theorem zLq {α : Type} {o : Option α} {p : Prop} (h : onNo o p) : o = none ∧ p := by
 cases o with
 | some _ => exact h.elim
 | none => exact ⟨rfl, h⟩
noncomputable abbrev bO {α β : Type} (o : Option α) (f : α → Option β) : Option β := match o with
 | some x => f x
 | none => none
theorem zIs {α β : Type} {o : Option α} {f : α → Option β} {c : β} (h : bO o f = some c) : ∃ x, o = some x ∧ f x = some c := by
 cases o with
 | none => exact zAR h
 | some x => exact ⟨x, rfl, h⟩
noncomputable abbrev lgc (o : Option NameKind) (p q r : Prop) : Prop := match o with
 | none => False
 | some k => match k with
  | .local => p
  | .globalImplicit => q
  | .cell => r
  | _ => False
theorem zOM {o : Option NameKind} {p q r : Prop} (h : lgc o p q r) : (o = some .local ∧ p) ∨ (o = some .globalImplicit ∧ q) ∨ (o = some .cell ∧ r) := by
 cases o with
 | none => exact h.elim
 | some x => cases x <;> first | exact .inl ⟨rfl, h⟩ | exact .inr (.inl ⟨rfl, h⟩) | exact .inr (.inr ⟨rfl, h⟩) | exact h.elim
noncomputable abbrev onE1 {α : Type} (l : List α) (f : α → Prop) : Prop := match l with
 | [] => False
 | x :: r => match r with
  | [] => f x
  | _ :: _ => False
theorem zBk {α : Type} {l : List α} {f : α → Prop} (h : onE1 l f) : ∃ x, l = [x] ∧ f x := by
 cases l with
 | nil => exact h.elim
 | cons x r => cases r with
  | nil => exact ⟨x, rfl, h⟩
  | cons => exact h.elim
noncomputable abbrev zSc (l : List Expr) (p : Prop) (f : Expr → Prop) : Prop := match l with
 | [] => p
 | c :: r => match r with
  | [] => f c
  | _ :: _ => False
theorem zKe {l : List Expr} {p : Prop} {f : Expr → Prop} (h : zSc l p f) : (l = [] ∧ p) ∨ ∃ c, l = [c] ∧ f c := by
 cases l with
 | nil => exact .inl ⟨rfl, h⟩
 | cons x r => cases r with
  | nil => exact .inr ⟨x, rfl, h⟩
  | cons => exact h.elim
noncomputable abbrev zQs (o : Option (List SV × (Nat → SO))) (f : List SV → (Nat → SO) → Prop) : Prop := match o with
 | none => False
 | some p => match p with
  | (a, b) => f a b
theorem zFb {o : Option (List SV × (Nat → SO))} {f : List SV → (Nat → SO) → Prop} (h : zQs o f) : ∃ a b, o = some (a, b) ∧ f a b := by
 cases o with
 | none => exact h.elim
 | some p => exact ⟨p.1, p.2, rfl, h⟩
noncomputable abbrev onDL (o : Option SO) (f : List (Str × SV) → Prop) (g : List SV → Prop) : Prop := match o with
 | none => False
 | some x => match x with
  | .dic fs => f fs
  | .list xs => g xs
  | _ => False
theorem zLs {o : Option SO} {f : List (Str × SV) → Prop} {g : List SV → Prop} (h : onDL o f g) : (∃ x, o = some (.dic x) ∧ f x) ∨ ∃ x, o = some (.list x) ∧ g x := by
 cases o with
 | none => exact h.elim
 | some x => cases x <;> first | exact .inl ⟨_, rfl, h⟩ | exact .inr ⟨_, rfl, h⟩ | exact h.elim
noncomputable abbrev zPd (e : Expr) : Bool := match e with
 | .Starred .. => true
 | _ => false
noncomputable abbrev zNz (v : Value) : Option Addr := match v with
 | .ref a => some a
 | _ => none
theorem zKJ {v : Value} {a : Addr} (h : zNz v = some a) : v = .ref a := by
 cases v <;> first | exact zAR h | exact congrArg Value.ref (Option.some.inj h)
theorem zKK {v : Value} (h : zNz v = none) (a : Addr) (e : v = .ref a) : False := by
 rw [e] at h; cases h
noncomputable abbrev isZ (i : Int) : Bool := match i with
 | .ofNat n => Nat.beq n 0
 | .negSucc _ => false
theorem zSZ {i : Int} (h : isZ i = true) : i = 0 := by
 cases i with
 | ofNat n => rw [Nat.eq_of_beq_eq_true h]; rfl
 | negSucc n => cases h
noncomputable def zQv (s : Str) : Bool := Nat.ble s.length 4096
theorem zJT {s : Str} (h : zQv s = true) : s.length ≤ sizeLine := by
 have := Nat.le_of_ble_eq_true h
 rw [sizeLine_eq]; lia
noncomputable def unSg (x : SV) : SV := match x with
 | .sg c _ _ => .str (sgS c)
 | x => x
theorem zIx {B : Heap} {W : Wd} {x : SV} {v : Value} (d : Den B W x v) : Den B W (unSg x) v := by
 cases x with
 | sg c es fs => exact ⟨d.1, by rw [zBU, sizeLine_eq]; lia⟩
 | _ => exact d
noncomputable def zRm (C : Cf) (st : St) (x : SV) (a : Str) (k : SV → Prop) : Prop := onOb x fun i => zJS st.led[i]? fun c fs => zBM (findCls c C.cls) fun ce => onTr (zBW a ce.attrs) (zBM (lk a fs) k)
noncomputable def zGH (C : Cf) (st : St) (x : SV) (a : Str) (v : SV) (k : St → Prop) : Prop := onOb x fun i => zJS st.led[i]? fun c fs => zBM (findCls c C.cls) fun ce => onTr (zBW a ce.attrs) (onTr (Nat.ble (fs.length + 1) 900) (k { st with led := st.led.set i (.inst c (put a v fs)) }))
noncomputable def zQx (C : Cf) (st : St) (x : SV) (a : Str) (k : Addr → Prop) : Prop := onOb x fun i => zJS st.led[i]? fun c fs => zBM (findCls c C.cls) fun ce => zBM (lk a ce.meths) fun f => onNo (lk a fs) (k f)
noncomputable def zSK (C : Cf) (st : St) (x : SV) (a : Str) : Option Addr := match x with
 | .obj i => bO st.led[i]? fun so => match so with
  | .inst c _ => bO (findCls c C.cls) fun ce => bO (lk a ce.props) fun p => some p.2
  | _ => none
 | _ => none
noncomputable def zBh : List (Str × Value) → List (Str × SV)
 | [] => []
 | (x, v) :: r => (x, toSV v) :: zBh r
noncomputable def zipS : List Str → List SV → List (Str × SV)
 | x :: xs, v :: vs => (x, v) :: zipS xs vs
 | _, _ => []
noncomputable def zipV : List Str → List Value → List (Str × Value)
 | x :: xs, v :: vs => (x, v) :: zipV xs vs
 | _, _ => []
noncomputable def zNH (st : St) (k : Kt) : Kt := fun r st' => match r with
 | .ret v => k (.v v) { loc := st.loc, led := st'.led }
 | .next => k (.v .none) { loc := st.loc, led := st'.led }
 | _ => False
noncomputable def zAl (v : Expr) : Bool := match v with
 | .ListComp .. => false
 | .SetComp .. => false
 | .DictComp .. => false
 | _ => true
noncomputable def zEU (o : Expr) : Bool := match o with
 | .Name .. => true
 | .Attribute .. => true
 | .Constant .. => true
 | .Subscript .. => true
 | _ => false
noncomputable def zBZ : List Expr → Bool
 | [] => true
 | e :: r => match zPd e with
  | true => false
  | false => zBZ r
noncomputable def mcOk (o : Expr) (args : List Expr) (apos pos : Pos) : Bool := zEU o && zBZ args && Nat.ble args.length 20 && apos.endLine == pos.line
noncomputable def zPe (st : St) (x : SV) : Bool := match x with
 | .obj i => match st.led[i]? with
  | some so => match so with
   | .inst .. => true
   | _ => false
  | none => false
 | _ => false
noncomputable def zJQ (i : Expr) : Bool := match i with
 | .Constant .. => true
 | .Name .. => true
 | .BinOp .. => true
 | .UnaryOp .. => true
 | _ => false
noncomputable def zMX (x : SV) : Bool := match x with
 | .dat _ => true
 | .obj _ => true
 | _ => false
noncomputable def zEI (x : SV) : Option Str := match x with
 | .str s => some s
 | _ => none
noncomputable def subT (st : St) (o i : SV) (k : SV → Prop) : Prop := match i with
 | .int i => match zEI o with
  | some x => -(x.length : Int) ≤ i ∧ i < (x.length : Int) ∧ k (.str (Txt.item x i))
  | none => zBM (zEL st o) fun p => ∃ y, idxP p.2 i y ∧ k y
 | _ => False
noncomputable def slT (st : St) (o : SV) (l u : Option Int) (k : SV → St → Prop) : Prop := match o with
 | .str x => k (.str (Txt.slice x l u)) st
 | .dat d => match d with
  | .list ds => k (.dat (.list (slD ds l u))) st
  | _ => False
 | _ => False
noncomputable def cmpA (n : Nat) (st : St) (op : CmpOp) (x y : SV) (k : Bool → Prop) : Prop := match zMX x with
 | true => match op with
  | .Eq => eqD n st x y k
  | .NotEq => eqD n st x y fun c => k (!c)
  | _ => cmpT st op x y k
 | false => cmpT st op x y k
noncomputable def on0 (vs : List SV) (p : Prop) : Prop := match vs with
 | [] => p
 | _ :: _ => False
noncomputable def on1 (vs : List SV) (f : SV → Prop) : Prop := match vs with
 | [] => False
 | x :: r => match r with
  | [] => f x
  | _ :: _ => False
noncomputable def on2 (vs : List SV) (f : SV → SV → Prop) : Prop := match vs with
 | [] => False
 | x :: r => match r with
  | [] => False
  | y :: q => match q with
   | [] => f x y
   | _ :: _ => False
noncomputable def zRP (x : SV) : Option Int := match x with
 | .int s => some s
 | _ => none
noncomputable def onS (x : SV) (f : Str → Prop) : Prop := match zEI x with
 | some s => f s
 | none => False
noncomputable def onI (x : SV) (f : Int → Prop) : Prop := match zRP x with
 | some s => f s
 | none => False
theorem zGQ {vs : List SV} {p : Prop} (h : on0 vs p) : vs = [] ∧ p := by
 cases vs with
 | nil => exact ⟨rfl, h⟩
 | cons => exact h.elim
theorem zAc {vs : List SV} {f : SV → Prop} (h : on1 vs f) : ∃ x, vs = [x] ∧ f x := by
 cases vs with
 | nil => exact h.elim
 | cons x r => cases r with
  | nil => exact ⟨x, rfl, h⟩
  | cons => exact h.elim
theorem zGP {vs : List SV} {f : SV → SV → Prop} (h : on2 vs f) : ∃ x y, vs = [x, y] ∧ f x y := by
 cases vs with
 | nil => exact h.elim
 | cons x r => cases r with
  | nil => exact h.elim
  | cons y q => cases q with
   | nil => exact ⟨x, y, rfl, h⟩
   | cons => exact h.elim
theorem zFT {x : SV} {s : Str} (h : zEI x = some s) : x = .str s := by
 cases x <;> first | exact zAR h | exact congrArg SV.str (Option.some.inj h)
theorem zAi {x : SV} {f : Str → Prop} (h : onS x f) : ∃ s, x = .str s ∧ f s := by
 cases x <;> first | exact ⟨_, rfl, h⟩ | exact h.elim
theorem zCP {x : SV} {f : Int → Prop} (h : onI x f) : ∃ s, x = .int s ∧ f s := by
 cases x <;> first | exact ⟨_, rfl, h⟩ | exact h.elim
noncomputable def onD (x : SV) (f : PyData → Prop) : Prop := match x with
 | .dat d => f d
 | _ => False
theorem zCQ {x : SV} {f : PyData → Prop} (h : onD x f) : ∃ s, x = .dat s ∧ f s := by
 cases x <;> first | exact ⟨_, rfl, h⟩ | exact h.elim
noncomputable def onLs (x : PyData) (f : List PyData → Prop) : Prop := match x with
 | .list d => f d
 | _ => False
theorem zCt {x : PyData} {f : List PyData → Prop} (h : onLs x f) : ∃ s, x = .list s ∧ f s := by
 cases x <;> first | exact ⟨_, rfl, h⟩ | exact h.elim
noncomputable def onBo (x : SV) (p : Prop) : Prop := match x with
 | .bool b => onTr b p
 | _ => False
theorem zLt {x : SV} {p : Prop} (h : onBo x p) : x = .bool true ∧ p := by
 cases x <;> first | exact ⟨congrArg SV.bool (zAp h).1, (zAp h).2⟩ | exact h.elim
noncomputable def onNl {α : Type} (l : List α) (p : Prop) : Prop := match l with
 | [] => p
 | _ :: _ => False
theorem zHH {α : Type} {l : List α} {p : Prop} (h : onNl l p) : l = [] ∧ p := by
 cases l with
 | nil => exact ⟨rfl, h⟩
 | cons => exact h.elim
noncomputable def isiT (x y : SV) (st : St) (k : SV → St → Prop) : Prop := match y with
 | .val v => match v with
  | .type t => match x with
   | .str _ => t = "str" ∧ k (.bool true) st
   | .dat d => match d with
    | .list _ => t = "str" ∧ k (.bool false) st
    | _ => False
   | _ => False
  | _ => False
 | _ => False
noncomputable def typT (x : SV) (st : St) (k : SV → St → Prop) : Prop := match x with
 | .int _ => k (.val (.type "int")) st
 | .str _ => k (.val (.type "str")) st
 | _ => False
noncomputable abbrev zCT (a b : String) (p q : Prop) : Prop := match decide (a = b) with
 | true => p
 | false => q
theorem zAX {a b : String} {p q : Prop} (h : zCT a b p q) : (a = b ∧ p) ∨ q := by
 unfold zCT at h
 split at h
 ·rename_i e; exact .inl ⟨of_decide_eq_true e, h⟩
 ·exact .inr h
noncomputable def bfT (f : Value) (vs : List SV) (st : St) (k : SV → St → Prop) : Prop := match f with
 | .builtin id => zCT id "len" (on1 vs fun x => match zEI x with
   | some s => k (.int s.length) st
   | none => zBM (zEL st x) fun p => p.2.length ≤ sizeLine ∧ k (.int p.2.length) st)
  <| zCT id "isinstance" (on2 vs fun x y => isiT x y st k) False
 | .type t => zCT t "type" (on1 vs fun x => typT x st k)
  <| zCT t "int" (on1 vs fun x => onI x fun i => k (.int i) st)
  <| zCT t "str" (on1 vs fun x => onI x fun i => i.natAbs < 4611686018427387904 ∧ (Str.ofString (toString i)).length ≤ sizeLine ∧ k (.str (Str.ofString (toString i))) st)
  <| zCT t "range" (on1 vs fun x => onI x fun i => 0 ≤ i ∧ i.toNat ≤ sizeLine ∧ k (.obj st.led.length) { st with led := st.led ++ [.rng i.toNat] })
  <| zCT t "collections.deque" (on0 vs (k (.obj st.led.length) { st with led := st.led ++ [.raw (zBR .none (rawInt 0))] })) False
 | _ => False
noncomputable def bmT (st : St) (x : SV) (m : Str) (k : String → Prop) : Prop := match x with
 | .str _ => match Fast.sEq m "join" with
  | true => k "str.join"
  | false => match Fast.sEq m "strip" with
   | true => k "str.strip"
   | false => match Fast.sEq m "split" with
    | true => k "str.split"
    | false => match Fast.sEq m "startswith" with
     | true => k "str.startswith"
     | false => match Fast.sEq m "endswith" with
      | true => k "str.endswith"
      | false => False
 | .obj i => zLr st.led[i]? fun _ => match Fast.sEq m "append" with
  | true => k "list.append"
  | false => match Fast.sEq m "pop" with
   | true => k "list.pop"
   | false => False
 | _ => False
noncomputable def bcT (mid : String) (st : St) (x : SV) (vs : List SV) (k : SV → St → Prop) : Prop :=
 zCT mid "str.join" (onS x fun sep => on1 vs fun v => zBt st v fun ds => ∃ ts : List Str, ds = ts.map .str ∧ JoinOk sep ts = true ∧ (Txt.join sep ts).length ≤ sizeLine ∧ k (.str (Txt.join sep ts)) st)
 <| zCT mid "str.strip" (onS x fun x => on0 vs (k (.str (Txt.strip x)) st))
 <| zCT mid "str.split" (onS x fun x => on2 vs fun y m => onS y fun y => onI m fun n => (y.length == 0) = false ∧ (decide (n < -(2 ^ 63 : Int)) || decide (n ≥ 2 ^ 63)) = false ∧ x.length + 2 ≤ sizeLine ∧ (Txt.splitMax x y n).length ≤ sizeLine ∧ k (.dat (.list ((Txt.splitMax x y n).map .str))) st)
 <| zCT mid "str.startswith" (onS x fun x => on1 vs fun y => onS y fun y => k (.bool (Txt.startswith x y)) st)
 <| zCT mid "str.endswith" (onS x fun x => on1 vs fun y => onS y fun y => k (.bool (Txt.endswith x y)) st)
 <| zCT mid "list.append" (onOb x fun i => on1 vs fun y => appT i y st fun st' => k .none st')
 <| zCT mid "list.pop" (onOb x fun i => on0 vs (∃ xs y, st.led[i]? = some (.list (xs ++ [y])) ∧ xs.length < sizeLine ∧ k y { st with led := st.led.set i (.list xs) })) False
noncomputable def zSC (st : St) (o i v : SV) (k : St → Prop) : Prop := onOb o fun j => onDL st.led[j]?
 (fun fs => onS i fun x => fs.length ≤ sizeLine ∧ k { st with led := st.led.set j (.dic (put x v fs)) })
 (fun xs => onI i fun z => 0 ≤ z ∧ z < (xs.length : Int) ∧ xs.length ≤ sizeLine ∧ k { st with led := st.led.set j (.list (xs.set z.toNat v)) })
noncomputable def zCs (e : Expr) : Bool := match e with
 | .Set .. => false
 | _ => true
noncomputable def zDw (e : Expr) : Bool := match e with
 | .Tuple .. => false
 | _ => true
noncomputable abbrev hkT {α : Type} (o : Option (HkE α)) (n : Nat) (x : α) (ns : List (Str × NameKind)) (st : St) (k : Kt) (p : Prop) : Prop := match o with
 | some h => onTr (Nat.ble h.d n) (h.x = x ∧ h.sp ns st k)
 | none => p
noncomputable def zRk (evn : List (Str × NameKind) → Tk → St → Kt → Prop) (elt tgt : Expr) (ifs : List Expr) (sc : Scope) (k : SV → St → Prop) (src : SV) (st₁ : St) : Prop := zQs (srcT st₁ src) fun all slot => zSc ifs
  (zBQ (zAN (zAu sc.names) tgt) none (fun st k => evn (zAu sc.names) (.ex elt) st k) src all slot st₁.led.length (st₁.led.length + 1) 0 all
    ⟨zBC st₁.loc sc.names, st₁.led ++ [slot 0, .list []]⟩ (fun stE => zAf st₁.loc st₁.led.length (st₁.led.length + 1) stE k))
  (fun c => zBQ (zAN (zAu sc.names) tgt) (some fun st k => evn (zAu sc.names) (.tr c) st k) (fun st k => evn (zAu sc.names) (.ex elt) st k) src all slot st₁.led.length (st₁.led.length + 1) 0 all
    ⟨zBC st₁.loc sc.names, st₁.led ++ [slot 0, .list []]⟩ (fun stE => zAf st₁.loc st₁.led.length (st₁.led.length + 1) stE k))
noncomputable def zNA (evn : List (Str × NameKind) → Tk → St → Kt → Prop) (ns : List (Str × NameKind)) (elt : Expr) (gens : List Comprehension) (sc : Scope) (st : St) (k : SV → St → Prop) : Prop := onE1 gens fun g => onTr (isZ g.is_async) (onTr (scOk ns sc) (onTr (zCs g.iter) (evn ns (.ex g.iter) st fun r st₁ => match r with
     | .v src => zRk evn elt g.target g.ifs sc k src st₁
     | _ => False)))
noncomputable def onV (K : SV → St → Prop) : Kt := fun a st => match a with
 | .v x => K x st
 | _ => False
noncomputable def onB (K : Bool → St → Prop) : Kt := fun a st => match a with
 | .b x => K x st
 | _ => False
noncomputable def onVs (K : List SV → St → Prop) : Kt := fun a st => match a with
 | .vs x => K x st
 | _ => False
noncomputable def zQq (C : Cf) (n : Nat) (ns : List (Str × NameKind)) (e : Option Expr) (st : St) (ev : List (Str × NameKind) → Tk → St → Kt → Prop) (k : Option Int → St → Prop) : Prop := match e with
 | none => k none st
 | some e => ev ns (.ex e) st <| onV fun r st₁ => match r with
  | .int i => k (some i) st₁
  | _ => False
noncomputable def zGj (C : Cf) (n : Nat) (evn : List (Str × NameKind) → Tk → St → Kt → Prop) (f : Addr) (vs : List SV) (st : St) (k : Kt) : Prop := match zHg f vs.length C.sps with
 | some e => match Nat.ble e.d n with
  | true => e.sp vs st k
  | false => False
 | none => match zEt f vs.length C.fns with
  | some e => evn e.scope.names (.sts e.body) { loc := zipS e.names vs ++ zBh e.more, led := st.led } (zNH st k)
  | none => False
noncomputable def ev (C : Cf) : Nat → List (Str × NameKind) → Tk → St → Kt → Prop
  | 0, _, _, _, _ => False
  | n + 1, ns, tk, st, k =>
    match tk with
    | .ex e => match e with
      | .Name x _ => onFa (Fast.sEq x "__debug__") (lgc (zAb x ns) (zBM (lk x st.loc) fun v => k (.v v) st) (zBM (lk x C.globs) fun v => k (.v (toSV v)) st)
          (zBM (lk x st.loc) fun y => onOb y fun i => zQt st.led[i]? fun c => zBM c fun v => k (.v v) st))
      | .Constant c _ _ => match c with
        | .none => k (.v .none) st
        | .bool b => k (.v (.bool b)) st
        | .int i => k (.v (.int i)) st
        | .str s => match zQv s with
          | true => k (.v (.str s)) st
          | false => False
        | _ => False
      | .Attribute o a _ => match zEU o with
        | false => False
        | true => ev C n ns (.ex o) st <| onV fun x st₁ =>
          match zSK C st₁ x a with
          | some f => zGj C n (ev C n) f [x] st₁ k
          | none => zRm C st₁ x a fun v => k (.v v) st₁
      | .BinOp l op r _ => ev C n ns (.ex l) st <| onV fun x st₁ =>
          ev C n ns (.ex r) st₁ <| onV fun y st₂ =>
            match zMX x with
            | true => match op with
              | .Add => zBt st₂ x fun ds => zBt st₂ y fun es => ds.length + es.length ≤ sizeLine ∧ k (.v (.dat (.list (ds ++ es)))) st₂
              | _ => False
            | false => binT op x y fun z => k (.v z) st₂
      | .Compare l ops rs _ => onE1 ops fun op => onE1 rs fun r => onFa (behindInMarks op r) (ev C n ns (.ex l) st <| onV fun x st₁ =>
              ev C n ns (.ex r) st₁ <| onV fun y st₂ =>
                cmpA n st₂ op x y fun z => k (.v (.bool z)) st₂)
      | .BoolOp op vs p => match vs with
        | [e] => ev C n ns (.ex e) st k
        | e₁ :: e₂ :: rest => match op with
          | .And => ev C n ns (.ex e₁) st <| onV fun x st₁ =>
              zCV st₁ x fun c => ifT c (ev C n ns (.ex (.BoolOp .And (e₂ :: rest) p)) st₁ k) (k (.v x) st₁)
          | .Or => ev C n ns (.ex e₁) st <| onV fun x st₁ =>
              zCV st₁ x fun c => ifT c (k (.v x) st₁) (ev C n ns (.ex (.BoolOp .Or (e₂ :: rest) p)) st₁ k)
        | [] => False
      | .UnaryOp op x _ => match op with
        | .USub => ev C n ns (.ex x) st <| onV fun y st₁ => match y with
          | .int i => k (.v (.int (-i))) st₁
          | _ => False
        | _ => False
      | .IfExp t a b _ => ev C n ns (.tr t) st <| onB fun c st₁ =>
          ifT c (ev C n ns (.ex a) st₁ k) (ev C n ns (.ex b) st₁ k)
      | .Tuple es _ pos => match zBZ es with
        | false => False
        | true => ev C n ns (.args es pos) st <| onVs fun vs st₁ =>
            match Nat.ble vs.length 4096 with
            | true => k (.v (.obj st₁.led.length)) { st₁ with led := st₁.led ++ [.tup vs] }
            | false => False
      | .List es pos => match zBZ es with
        | false => False
        | true => ev C n ns (.args es pos) st <| onVs fun vs st₁ =>
            match Nat.ble vs.length 4096 with
            | true => k (.v (.obj st₁.led.length)) { st₁ with led := st₁.led ++ [.list vs] }
            | false => False
      | .Subscript o i _ => match zJQ i with
        | true => ev C n ns (.ex o) st <| onV fun x st₁ =>
              ev C n ns (.ex i) st₁ <| onV fun y st₂ =>
                subT st₂ x y fun z => k (.v z) st₂
        | false => match i with
          | .Slice lo hi stp _ => match stp with
            | none => ev C n ns (.ex o) st <| onV fun x st₁ =>
              zQq C n ns lo st₁ (ev C n) fun l st₂ => zQq C n ns hi st₂ (ev C n) fun u st₃ => slT st₃ x l u fun z st₄ => k (.v z) st₄
            | some _ => False
          | _ => False
      | .ListComp a b c pos => hkT (zBc pos.line pos.col C.hxs) n (.ListComp a b c pos) ns st k (zNA (ev C n) ns a b c st fun v st₁ => k (.v v) st₁)
      | .Dict ks vs _ => match ks with
        | [] => match vs with
          | [] => k (.v (.obj st.led.length)) { st with led := st.led ++ [.dic []] }
          | _ => False
        | _ => False
      | .Call f args kws pos => hkT (zBc pos.line pos.col C.hxs) n (.Call f args kws pos) ns st k <| match kws with
        | [] => match f with
          | .Attribute o m apos => match mcOk o args apos pos with
           | false => False
           | true => ev C n ns (.ex o) st <| onV fun x st₁ =>
              match zPe st₁ x with
              | true => zQx C st₁ x m fun fa => ev C n ns (.args args pos) st₁ <| onVs fun vs st₂ =>
                  zGj C n (ev C n) fa (x :: vs) st₂ k
              | false => bmT st₁ x m fun mid => ev C n ns (.args args pos) st₁ <| onVs fun vs st₂ =>
                  bcT mid st₂ x vs fun z st₃ => k (.v z) st₃
          | .Name _ _ => match zBZ args with
           | false => False
           | true => ev C n ns (.ex f) st <| onV fun y st₁ => match y with
            | .val f => ev C n ns (.args args pos) st₁ <| onVs fun vs st₂ =>
                match zNz f with
                | some fa => zGj C n (ev C n) fa vs st₂ k
                | none => bfT f vs st₂ fun z st₃ => k (.v z) st₃
            | _ => False
          | _ => False
        | _ => False
      | _ => False
    | .args es pos => match es with
      | [] => k (.vs []) st
      | e :: rest => onFa (zPd e) (ev C n ns (.ex e) st <| onV fun x st₁ =>
            ev C n ns (.args rest pos) st₁ <| onVs fun vs st₂ =>
              k (.vs (x :: vs)) st₂)
    | .tr e => match e with
      | .BoolOp op vs p => match vs with
        | [] => match op with
          | .And => k (.b true) st
          | .Or => k (.b false) st
        | e₁ :: rest => match op with
          | .And => ev C n ns (.tr e₁) st <| onB fun c st₁ =>
              ifT c (ev C n ns (.tr (.BoolOp .And rest p)) st₁ k) (k (.b false) st₁)
          | .Or => ev C n ns (.tr e₁) st <| onB fun c st₁ =>
              ifT c (k (.b true) st₁) (ev C n ns (.tr (.BoolOp .Or rest p)) st₁ k)
      | .UnaryOp op x _ => match op with
        | .Not => ev C n ns (.tr x) st <| onB fun c st₁ =>
            k (.b (!c)) st₁
        | _ => False
      | .Compare l ops rs _ => onE1 ops fun op => onE1 rs fun r => onFa (behindInMarks op r) (ev C n ns (.ex l) st <| onV fun x st₁ =>
              ev C n ns (.ex r) st₁ <| onV fun y st₂ =>
                cmpA n st₂ op x y fun z => k (.b z) st₂)
      | .Name .. => ev C n ns (.ex e) st <| onV fun x st₁ =>
          zCV st₁ x fun c => k (.b c) st₁
      | .Attribute .. => ev C n ns (.ex e) st <| onV fun x st₁ =>
          zCV st₁ x fun c => k (.b c) st₁
      | .Call .. => ev C n ns (.ex e) st <| onV fun x st₁ =>
          zCV st₁ x fun c => k (.b c) st₁
      | .Constant .. => ev C n ns (.ex e) st <| onV fun x st₁ =>
          zCV st₁ x fun c => k (.b c) st₁
      | _ => False
    | .wl t b => ev C n ns (.tr t) st <| onB fun c st₁ =>
        ifT c (ev C n ns (.sts b) st₁ fun r st₂ => match r with
          | .next => ev C n ns (.wl t b) st₂ k
          | .cont => ev C n ns (.wl t b) st₂ k
          | .brk => k .next st₂
          | .ret x => k (.ret x) st₂
          | _ => False) (k .next st₁)
    | .sts l => match l with
      | [] => k .next st
      | s :: rest => ev C n ns (.st s) st fun r st₁ => match r with
        | .next => ev C n ns (.sts rest) st₁ k
        | .brk => k .brk st₁
        | .cont => k .cont st₁
        | .ret x => k (.ret x) st₁
        | _ => False
    | .st s => match s with
      | .Assign tgs v pos => match tgs with
        | [] => False
        | t₀ :: r₀ => match r₀ with
          | [] => match t₀ with
            | .Name x _ => zJX (zAb x ns)
              (match zAl v with
                | true => ev C n ns (.ex v) st <| onV fun y st₁ =>
                    k .next { st₁ with loc := put x y st₁.loc }
                | false => match v with
                  | .ListComp a b c _ => zNA (ev C n) ns a b c st fun y st₁ => k .next { st₁ with loc := put x y st₁.loc }
                  | _ => False)
              (match zAl v with
                | true => ev C n ns (.ex v) st <| onV fun y st₁ =>
                    stT ns x y st₁ fun st₂ => k .next st₂
                | false => match v with
                  | .ListComp a b c _ => zNA (ev C n) ns a b c st fun y st₁ => stT ns x y st₁ fun st₂ => k .next st₂
                  | _ => False)
            | .Tuple elts q p => match zAl v with
              | true => match zDw v with
                | true => ev C n ns (.ex v) st <| onV fun y st₁ =>
                    zAN ns (.Tuple elts q p) y st₁ fun st₂ => k .next st₂
                | false => False
              | false => False
            | .Subscript o i _ => match zAl v with
              | true => ev C n ns (.ex v) st <| onV fun y st₁ =>
                  ev C n ns (.ex o) st₁ <| onV fun x st₂ =>
                    ev C n ns (.ex i) st₂ <| onV fun z st₃ =>
                      zSC st₃ x z (unSg y) fun st₄ => k .next st₄
              | false => False
            | .Attribute o a _ => match zAl v with
              | true => ev C n ns (.ex v) st <| onV fun y st₁ =>
                  ev C n ns (.ex o) st₁ <| onV fun x st₂ =>
                    zGH C st₂ x a (unSg y) fun st₃ => k .next st₃
              | false => False
            | _ => False
          | t₁ :: r₁ => match r₁ with
            | [] => match t₀ with
              | .Name x _ => match t₁ with
                | .Name z _ => match zAl v with
                  | true => match zDw v with
                    | true => ev C n ns (.ex v) st <| onV fun y st₁ =>
                        stT ns x y st₁ fun st₂ => stT ns z y st₂ fun st₃ => k .next st₃
                    | false => False
                  | false => False
                | _ => False
              | _ => False
            | _ :: _ => False
      | .AugAssign tg op v _ => match op with
        | .Add => match tg with
          | .Name x _ => zJX (zAb x ns) (zBM (lk x st.loc) fun old => ev C n ns (.ex v) st <| onV fun y st₁ =>
                  addT old y fun z => k .next { st₁ with loc := put x z st₁.loc }) False
          | .Attribute o a _ => ev C n ns (.ex o) st <| onV fun x st₁ =>
              zRm C st₁ x a fun old => ev C n ns (.ex v) st₁ <| onV fun y st₂ =>
                addT old y fun z => zGH C st₂ x a z fun st₃ => k .next st₃
          | _ => False
        | _ => False
      | .If t b e _ => ev C n ns (.tr t) st <| onB fun c st₁ =>
          ifT c (ev C n ns (.sts b) st₁ k) (ev C n ns (.sts e) st₁ k)
      | .Return v pos => hkT (zBc pos.line pos.col C.hss) n (.Return v pos) ns st k <| match v with
          | some e => ev C n ns (.ex e) st <| onV fun x st₁ =>
              k (.ret x) st₁
          | none => k (.ret .none) st
      | .Break _ => k .brk st
      | .Continue _ => k .cont st
      | .Pass _ => k .next st
      | .For a b c d pos => hkT (zBc pos.line pos.col C.hss) n (.For a b c d pos) ns st k <| match d with
          | [] => match zCs b with
            | true => ev C n ns (.ex b) st <| onV fun src st₁ =>
                zQs (srcT st₁ src) fun all slot => forE (zAN ns a) (fun st k => ev C n ns (.sts c) st k) src all slot st₁.led.length 0 all { st₁ with led := st₁.led ++ [slot 0] } k
            | false => False
          | _ => False
      | .Try a b c d pos => hkT (zBc pos.line pos.col C.hss) n (.Try a b c d pos) ns st k False
      | .While t b e pos => hkT (zBc pos.line pos.col C.hss) n (.While t b e pos) ns st k <| match e with
          | [] => ev C n ns (.wl t b) st k
          | _ => False
      | .Expr e _ => match e with
        | .Call .. => ev C n ns (.ex e) st <| onV fun _ st₁ =>
            k .next st₁
        | _ => False
      | _ => False
structure FnOk (K : Frag) (e : FnE) : Prop where
 at_ : ∃ oc od osl fd, K.lookup e.fa = some (⟨oc, od, .func fd, osl⟩ : Obj) ∧ fd.body = .stmts e.body ∧ fd.scope = e.scope ∧ (∀ L a, callEnv fd L a = envOf e.qual e.scope L a e.cd) ∧ fd.code = e.cd ∧ fd.qualname = e.qual ∧
  ∀ (s : Shared) (vs : List Value), K.In s.heap → vs.length = e.na → BindsTo s fd ⟨vs, []⟩ (zipV e.names vs ++ e.more)
 celk : ∀ x ∈ e.cells, e.scope.names.lookup x = some .cell
 code : codeIn K e.cd e.qual = true
 cells : ∀ n, (cellsFrom n e.scope.names []).map (·.1) = e.cells
 loc : ∀ x ∈ e.names ++ e.more.map (·.1), e.scope.names.lookup x = some .local ∨ (e.scope.names.lookup x = some .cell ∧ x ∈ e.cells)
 nd : (e.names ++ e.more.map (·.1)).Nodup
 len : e.names.length = e.na
 co : e.scope.isCoroutine = false
 gen : e.scope.isGenerator = false
 kind : e.scope.kind = .function
 more : ∀ x ∈ e.more, ∀ B ads, Den B ads (toSV x.2) x.2
structure ClsOk (K : Frag) (c : ClsE) : Prop where
 get : ∀ a, zBW a c.attrs = true → plainGet K c.C a = true ∧ hasDictIn K c.C = true ∧ findIn K (.ref c.C) a = some none
 set : ∀ a, zBW a c.attrs = true → findIn K (.ref c.C) "__setattr__" = some (some (.builtin "object.__setattr__")) ∧ plainOver K c.C = true ∧ takerIn K c.C a = some none
 meth : ∀ a f, lk a c.meths = some f → plainGet K c.C a = true ∧ findIn K (.ref c.C) a = some (some (.ref f)) ∧ isFn K (.ref f) = true
 prop : ∀ a p f, lk a c.props = some (p, f) → plainGet K c.C a = true ∧ hasDictIn K c.C = true ∧ findIn K (.ref c.C) a = some (some (.ref p)) ∧ specialIn K (.ref p) "__get__" = some (some (.builtin "property.__get__")) ∧ takesIn K (.ref p) = some true ∧ ∃ rest, recIn K p "property" = some (.ref f :: rest)
noncomputable def Goal (w : World) (F : Fm) (tk : Tk) (Q : CR → Shared → Prop) (E : Value → Shared → Prop) (s : Shared) : Prop := match tk with
 | .ex e => wpAny (model prog w) F.A (eval e F.env) (fun v s' => Q (.v v) s') E s
 | .tr e => wpAny (model prog w) F.A (PySem.isTrue e F.env (eval e F.env)) (fun b s' => Q (.b b) s') E s
 | .st x => wpAny (model prog w) F.A (exec x F.env) (fun f s' => Q (.fl f) s') E s
 | .sts l => wpAny (model prog w) F.A (execs l F.env) (fun f s' => Q (.fl f) s') E s
 | .args es pos => wpAny (model prog w) F.A (spliced (backTo pos (starEach es F.env))) (fun vs s' => Q (.vs vs) s') E s
 | .wl t b => codeAny (model prog w) F.A (.whileLoop t b [] F.env) (fun r s' => match r with
  | .ok f => Q (.fl f) s'
  | .error e => cameBackBy (model prog w) F.A F.env E e s') s
structure SpOk (w : World) (C : Cf) (e : SpE) : Prop where
 keep : keepIn C.K (.ref e.fa) = true
 ok : ∀ (F : Fm) (A : Around) (ads : Wd) (st : St) (s : Shared) (svs : List SV) (vs : List Value) (k : Kt) (Q : CR → Shared → Prop) (Rr : Result → Shared → Prop), FmOk C F → (C.known = true → A.frames = some F.stk) → A.handled = none → A.depth + e.d < recursionLimit → A.units + 8 * e.d < cLine →
  e.sp svs st k → Rep w F ads st s.heap → DenL F.B ads svs vs → vs.length = e.na → Then w F ads s k Q → (∀ v s', Q (.v v) s' → Rr (.ok (.ret v)) s') → codeAny (model prog w) A (.call (.ref e.fa) ⟨vs, []⟩) Rr s
noncomputable def HxOk (w : World) (C : Cf) (h : HkE Expr) : Prop := ∀ (F : Fm) (E : Value → Shared → Prop) (ads : Wd) (st : St) (s : Shared) (k : Kt) (Q : CR → Shared → Prop), FmOk C F → F.A.depth + h.d < recursionLimit → F.A.units + 8 * h.d < cLine →
  h.sp F.sc.names st k → Rep w F ads st s.heap → Then w F ads s k Q → Goal w F (.ex h.x) Q E s
noncomputable def HsOk (w : World) (C : Cf) (h : HkE Stmt) : Prop := ∀ (F : Fm) (E : Value → Shared → Prop) (ads : Wd) (st : St) (s : Shared) (k : Kt) (Q : CR → Shared → Prop), FmOk C F → F.A.depth + h.d < recursionLimit → F.A.units + 8 * h.d < cLine →
  h.sp F.sc.names st k → Rep w F ads st s.heap → Then w F ads s k Q → Goal w F (.st h.x) Q E s
structure CfOk (w : World) (C : Cf) : Prop where
 fns : ∀ e ∈ C.fns, FnOk C.K e ∧ keepIn C.K (.ref e.fa) = true ∧ ∀ x ∈ e.scope.names, x.2 ≠ .cell
 cls : ∀ c ∈ C.cls, ClsOk C.K c
 globs : ∀ x v, lk x C.globs = some v → (∀ B ads, Den B ads (toSV v) v) ∧ (nsIn C.K mainGlobals x = some (some v) ∨ (nsIn C.K mainGlobals x = some none ∧ bootBuiltins x = some v ∧ x ≠ "__name__"))
 sps : ∀ e ∈ C.sps, SpOk w C e
 hxs : ∀ e ∈ C.hxs, HxOk w C e
 hss : ∀ e ∈ C.hss, HsOk w C e
noncomputable def zBE (w : World) (C : Cf) (n : Nat) : Prop := ∀ (F : Fm) (E : Value → Shared → Prop) (tk : Tk) (st : St) (k : Kt) (ads : Wd) (s : Shared) (Q : CR → Shared → Prop),
 FmOk C F → F.A.depth + n < recursionLimit → F.A.units + 8 * n < cLine → ev C n F.sc.names tk st k → Rep w F ads st s.heap → Then w F ads s k Q → Goal w F tk Q E s
section
variable {w : World} {C : Cf} {F : Fm} {ads : Wd} {s : Shared}
theorem zEs {f n : Nat} {e : FnE} : ∀ {l : List FnE}, zEt f n l = some e → e ∈ l ∧ e.fa = f ∧ e.na = n
 | [], h => by cases h
 | x :: r, h => by
  unfold zEt at h
  cases q : Nat.beq x.fa f with
  | true =>
   rw [q] at h
   cases q' : Nat.beq x.na n with
   | true => rw [q'] at h; cases h; exact ⟨.head _, Nat.eq_of_beq_eq_true q, Nat.eq_of_beq_eq_true q'⟩
   | false => rw [q'] at h; obtain ⟨a, b⟩ := zEs h; exact ⟨.tail _ a, b⟩
  | false => rw [q] at h; obtain ⟨a, b⟩ := zEs h; exact ⟨.tail _ a, b⟩
theorem zDB {c : Nat} {e : ClsE} : ∀ {l : List ClsE}, findCls c l = some e → e ∈ l ∧ e.C = c
 | [], h => by cases h
 | x :: r, h => by
  unfold findCls at h
  cases q : Nat.beq x.C c with
  | true => rw [q] at h; cases h; exact ⟨.head _, Nat.eq_of_beq_eq_true q⟩
  | false => rw [q] at h; obtain ⟨a, b⟩ := zDB h; exact ⟨.tail _ a, b⟩
theorem zCp {st : St} {i c : Nat} {fs : List (Str × SV)} {v : Value} {m : Str → Option Value} {news lw : List (Addr × Obj)} (X : RepX w F ads st s.heap m news lw) (hi : st.led[i]? = some (.inst c fs)) (d : Den F.B ads (.obj i) v) :
  ∃ pre post a dd es n, news = pre ++ (a, instObj c dd) :: (dd, dictOf es n) :: post ∧ v = .ref a ∧ EntR w.params F.B ads es fs ∧ InstAt s.heap a (instObj c dd) c (some (dictOf es n)) ∧
   (∀ p ∈ pre ++ [(a, instObj c dd)], p.1 ≠ dd) ∧ (∀ p ∈ post ++ (ads.fz ++ lw), p.1 ≠ dd) ∧
   ∀ es' n' fs', EntR w.params F.B ads es' fs' → LedR w.params F.B ads ads.ads (st.led.set i (.inst c fs')) (pre ++ (a, instObj c dd) :: (dd, dictOf es' n') :: post) := by
 obtain ⟨pre, ps, post, a, dd, h1, h2, h3, h4⟩ := X.led.at hi
 obtain ⟨es, n, he, rfl⟩ := h3.inv
 ·obtain ⟨p, hp, hv⟩ := d
  rw [h2] at hp
  cases hp
  have h1' : news = pre ++ (a, instObj c dd) :: (dd, dictOf es n) :: post := by rw [h1]; simp
  have nd := X.nd
  rw [h1'] at nd
  have I : InstAt s.heap a (instObj c dd) c (some (dictOf es n)) := InstAt.of_news (h₀ := F.h₀) (L := F.L) X.nw (by rw [h1']; simp) (by rw [h1']; simp)
  have e : (pre ++ (a, instObj c dd) :: (dd, dictOf es n) :: post ++ (ads.fz ++ lw)).map (·.1) = (pre ++ [(a, instObj c dd)]).map (·.1) ++ dd :: (post ++ (ads.fz ++ lw)).map (·.1) := by simp
  rw [e] at nd
  have nd' := List.nodup_append.mp nd
  refine ⟨pre, post, a, dd, es, n, h1', hv, he, I, fun q hq => ?_, fun q hq => ?_, fun es' n' fs' e' => by simpa using h4 _ _ (One.inst (n := n') e')⟩
  ·exact nd'.2.2 q.1 (List.mem_map_of_mem hq) dd (.head _)
  ·intro ee
   have := (List.nodup_cons.mp nd'.2.1).1
   exact this (ee ▸ List.mem_map_of_mem hq)
theorem zFv {st : St} {x : SV} {a : Str} {k : SV → Prop} {v : Value} {E : Value → Shared → Prop} {Q : Value → Shared → Prop} {ex : Bool} (cok : CfOk w C) (ok : FmOk C F) (R : Rep w F ads st s.heap) (d : Den F.B ads x v) (h : zRm C st x a k)
  (hQ : ∀ y u t, k y → Den F.B ads y u → Q u { s with toks := t }) : wpAny (model prog w) F.A (getAttr v a ex) Q E s := by
 obtain ⟨i, rfl, g⟩ := zAz h
 obtain ⟨c, fs, hi, g⟩ := zCc g
 obtain ⟨ce, hc, g⟩ := zAK g
 obtain ⟨hn, g⟩ := zAp g
 obtain ⟨y, hy, gk⟩ := zAK g
 obtain ⟨m, news, lw, X⟩ := R
 obtain ⟨pre, post, b, dd, es, n, h1, rfl, he, I, _⟩ := zCp X hi d
 obtain ⟨hm, rfl⟩ := zDB hc
 obtain ⟨g1, g2, g3⟩ := (cok.cls ce hm).get a hn
 obtain ⟨u, e1, e2⟩ := he.get hy
 exact get_own X.fr ok.X I g1 g2 g3 rfl e1 e2.handed (hQ y u _ gk e2)
theorem zFY {α : Type} (x : Str) (v : α) : ∀ l : List (Str × α), (put x v l).length ≤ l.length + 1
 | [] => Nat.le_refl _
 | (y, a) :: r => by
  unfold put
  cases Fast.sEq x y with
  | true => exact Nat.le_succ _
  | false => exact Nat.succ_le_succ (zFY x v r)
theorem zCk {st : St} {x y : SV} {a : Str} {k : St → Prop} {v u : Value} {E : Value → Shared → Prop} {Q : Unit → Shared → Prop} (cok : CfOk w C) (ok : FmOk C F) (R : Rep w F ads st s.heap) (d : Den F.B ads x v) (d' : Den F.B ads y u) (h : zGH C st x a y k)
  (hQ : ∀ st' h' t, k st' → Rep w F ads st' h' → Q () { s with heap := h', toks := t }) : wpAny (model prog w) F.A (setAttr v a u) Q E s := by
 obtain ⟨i, rfl, g⟩ := zAz h
 obtain ⟨c, fs, hi, g⟩ := zCc g
 obtain ⟨ce, hc, g⟩ := zAK g
 obtain ⟨hn, g⟩ := zAp g
 obtain ⟨hz, gk⟩ := zAp g
 obtain ⟨m, news, lw, X⟩ := R
 obtain ⟨pre, post, b, dd, es, n, h1, rfl, he, I, n1, n2, h4⟩ := zCp X hi d
 obtain ⟨hm, rfl⟩ := zDB hc
 obtain ⟨g1, g2, g3⟩ := (cok.cls ce hm).get a hn
 obtain ⟨s1, s2, s3⟩ := (cok.cls ce hm).set a hn
 have he' := he.set (x := a) (t := s.toks + 1) d'
 have hU : Upd dd (dictOf es n) (dictOf (putL a (PyData.keyHash w.params a) (.str a (s.toks + 1)) u es) (putN a es n)) (news ++ (ads.fz ++ lw)) (pre ++ (b, instObj ce.C dd) :: (dd, dictOf (putL a (PyData.keyHash w.params a) (.str a (s.toks + 1)) u es) (putN a es n)) :: post ++ (ads.fz ++ lw)) := by
  rw [h1]
  have : ∀ (l : List (Addr × Obj)), (∀ p ∈ l, p.1 ≠ dd) → Upd dd (dictOf es n) (dictOf (putL a (PyData.keyHash w.params a) (.str a (s.toks + 1)) u es) (putN a es n)) (l ++ (dd, dictOf es n) :: (post ++ (ads.fz ++ lw))) (l ++ (dd, dictOf (putL a (PyData.keyHash w.params a) (.str a (s.toks + 1)) u es) (putN a es n)) :: (post ++ (ads.fz ++ lw))) := by
   intro l
   induction l with
   | nil => intro _; exact .head n2
   | cons p l ih => intro hp; exact .tail (hp p (.head _)) (ih fun q hq => hp q (.tail _ hq))
  have z := this (pre ++ [(b, instObj ce.C dd)]) n1
  simpa using z
 refine set_dict X.fr ok.X X.nw I rfl s1 s2 s3 g2 he.some rfl hU ?_ (fun h' F' N' => hQ _ h' _ gk ⟨m, _, lw, F', N', X.loc, h4 _ _ _ he', ?_, X.ups⟩)
 ·have l1 := he'.length
  have l2 := zFY a y fs
  have l3 := Nat.le_of_ble_eq_true hz
  lia
 ·have nd := X.nd
  rw [h1] at nd
  simpa using nd
theorem zGc {f n : Nat} {e : SpE} : ∀ {l : List SpE}, zHg f n l = some e → e ∈ l ∧ e.fa = f ∧ e.na = n
 | [], h => by cases h
 | x :: r, h => by
  unfold zHg at h
  cases q : Nat.beq x.fa f with
  | true =>
   rw [q] at h
   cases q' : Nat.beq x.na n with
   | true => rw [q'] at h; cases h; exact ⟨.head _, Nat.eq_of_beq_eq_true q, Nat.eq_of_beq_eq_true q'⟩
   | false => rw [q'] at h; obtain ⟨a, b⟩ := zGc h; exact ⟨.tail _ a, b⟩
  | false => rw [q] at h; obtain ⟨a, b⟩ := zGc h; exact ⟨.tail _ a, b⟩
theorem zGd {α : Type} {a b : Nat} {e : HkE α} : ∀ {l : List (HkE α)}, zBc a b l = some e → e ∈ l
 | [], h => by cases h
 | x :: r, h => by
  unfold zBc at h
  cases q : Nat.beq x.line a with
  | true =>
   rw [q] at h
   cases q' : Nat.beq x.col b with
   | true => rw [q'] at h; cases h; exact .head _
   | false => rw [q'] at h; exact .tail _ (zGd h)
  | false => rw [q] at h; exact .tail _ (zGd h)
theorem zBN {x : Str} {v : Value} : ∀ {l : List (Str × Value)}, (l.map (·.1)).Nodup → (x, v) ∈ l → l.reverse.lookup x = some v := by
 intro l nd hm
 have : ∀ (l : List (Str × Value)), (l.map (·.1)).Nodup → (x, v) ∈ l → l.lookup x = some v := by
  intro l
  induction l with
  | nil => intro _ h; cases h
  | cons p r ih =>
   intro nd h
   rw [List.map_cons, List.nodup_cons] at nd
   rcases List.mem_cons.mp h with e | h
   ·subst e
    rw [List.lookup_cons, beq_self_eq_true]
   ·rw [List.lookup_cons]
    have : (x == p.1) = false := beq_eq_false_iff_ne.mpr fun e => nd.1 (e ▸ List.mem_map_of_mem h)
    rw [this]; exact ih nd.2 h
 refine this _ ?_ (by simpa using hm)
 rw [List.map_reverse]
 exact (List.reverse_perm _).nodup_iff.mpr nd
theorem zBJ : ∀ (xs : List Str) (vs : List Value), xs.length = vs.length → (zipV xs vs).map (·.1) = xs
 | [], [], _ => rfl
 | x :: xs, v :: vs, h => by
  show x :: (zipV xs vs).map (·.1) = _
  rw [zBJ xs vs (by simpa using h)]
 | [], _ :: _, h => by simp at h
 | _ :: _, [], h => by simp at h
theorem zMH {B : Heap} {x : Str} {sv : SV} {more : List (Str × Value)} (hmore : ∀ y ∈ more, Den B ads (toSV y.2) y.2) : ∀ {xs : List Str} {svs : List SV} {vs : List Value}, DenL B ads svs vs → lk x (zipS xs svs ++ zBh more) = some sv →
  ∃ v, (x, v) ∈ zipV xs vs ++ more ∧ Den B ads sv v := by
 have base : ∀ more : List (Str × Value), (∀ y ∈ more, Den B ads (toSV y.2) y.2) → lk x (zBh more) = some sv → ∃ v, (x, v) ∈ more ∧ Den B ads sv v := by
  intro more
  induction more with
  | nil => intro _ h; cases h
  | cons p r ih =>
   intro hm h
   obtain ⟨y, u⟩ := p
   unfold zBh lk at h
   cases q : Fast.sEq x y with
   | true =>
    rw [q] at h; cases h
    have := zAO q; subst this
    exact ⟨u, .head _, hm _ (.head _)⟩
   | false =>
    rw [q] at h
    obtain ⟨v, a, b⟩ := ih (fun z hz => hm z (.tail _ hz)) h
    exact ⟨v, .tail _ a, b⟩
 intro xs
 induction xs with
 | nil => intro svs vs d h; exact base more hmore (by cases svs <;> exact h)
 | cons y ys ih =>
  intro svs vs d h
  cases d with
  | nil => exact base more hmore h
  | cons dx dr =>
   rename_i sx u sxs us
   have h' : lk x ((y, sx) :: (zipS ys sxs ++ zBh more)) = some sv := h
   unfold lk at h'
   cases q : Fast.sEq x y with
   | true =>
    rw [q] at h'; cases h'
    have := zAO q; subst this
    exact ⟨u, .head _, dx⟩
   | false =>
    rw [q] at h'
    obtain ⟨v, a, b⟩ := ih dr h'
    exact ⟨v, .tail _ a, b⟩
set_option backward.match.sparseCases true
theorem zDG {args : Args} {n f : Nat} {svs : List SV} {vs : List Value} {st : St} {k : Kt} {e : FnE} {A : Around} {Rr : Result → Shared → Prop} {Q : CR → Shared → Prop} (ih : zBE w C n) (cok : CfOk w C) (ok : FmOk C F)
  (hA : C.known = true → A.frames = some F.stk) (hh : A.handled = none) (hd : A.depth + n < recursionLimit) (hd' : A.depth + 1 + n < recursionLimit) (hu : A.units + 3 + 8 * n < cLine) (R : Rep w F ads st s.heap) (D : DenL F.B ads svs vs) (hf : zEt f svs.length C.fns = some e)
  (hb : ∀ (oc : Value) (od : Option Addr) (osl : Array (Option Value)) (fd : FuncData), C.K.lookup e.fa = some (⟨oc, od, .func fd, osl⟩ : Obj) → C.K.In s.heap → BindsTo s fd args (zipV e.names vs ++ e.more))
  (h : ev C n e.scope.names (.sts e.body) { loc := zipS e.names svs ++ zBh e.more, led := st.led } (zNH st k)) (T : Then w F ads s k Q) (hR : ∀ v s', Q (.v v) s' → Rr (.ok (.ret v)) s') :
  codeAny (model prog w) A (.call (.ref f) args) Rr s := by
 obtain ⟨hm, rfl, hna⟩ := zEs hf
 have fo := (cok.fns e hm).1
 have fcell := (cok.fns e hm).2.2
 have nocell : ∀ x, e.scope.names.lookup x = some .cell → (NameKind.cell ≠ NameKind.cell) := fun x hx => fcell _ (mem_of_lookup hx)
 have floc : ∀ x ∈ e.names ++ e.more.map (·.1), e.scope.names.lookup x = some .local := fun x hx => (fo.loc x hx).resolve_right fun q => nocell x q.1 rfl
 obtain ⟨oc, od, osl, fd, g1, g2, g3, g4, g5, g6, g7⟩ := fo.at_
 obtain ⟨m, news, lw, X⟩ := R
 have XK : C.K.In s.heap := ok.X.keeps X.fr.keep
 have hlen : vs.length = e.na := by rw [← D.length, hna]
 obtain ⟨oL, es, ep, hL, hLd, hLk, hLf⟩ := X.fr.ns
 have hF0 : F.h₀.get? F.L = none := by
  cases q : F.h₀.get? F.L with
  | none => rfl
  | some o => exact absurd (Heap.lt_size q) (Nat.not_lt.mpr X.fr.above)
 let all : List (Addr × Obj) := news ++ (ads.fz ++ ((F.L, oL) :: lw))
 have pmA : all.Perm ((F.L, oL) :: (news ++ (ads.fz ++ lw))) := by
  show (news ++ (ads.fz ++ ((F.L, oL) :: lw))).Perm _
  rw [← List.append_assoc, ← List.append_assoc]
  exact List.perm_middle
 have nwA : ∀ p ∈ all, s.heap.get? p.1 = some p.2 ∧ F.h₀.get? p.1 = none := fun p hp => by
  rcases List.mem_cons.mp (pmA.mem_iff.mp hp) with rfl | q
  ·exact ⟨hL, hF0⟩
  ·exact ⟨(X.nw p q).1, (X.nw p q).2.2⟩
 have ndA : (all.map (·.1)).Nodup := by
  refine (pmA.map (·.1)).nodup_iff.mpr (List.nodup_cons.mpr ⟨fun q => ?_, X.nd⟩)
  obtain ⟨p, hp, e⟩ := List.mem_map.mp q
  exact (X.nw p hp).2.1 e
 have nm : ∀ b o, F.h₀.get? b = some o → b ∉ all.map (·.1) := fun b o e q => by
  obtain ⟨p, hp, rfl⟩ := List.mem_map.mp q
  rw [(nwA p hp).2] at e; cases e
 have stay : F.h₀.StaysIn (hideAll s.heap (all.map (·.1))) := fun b o e => hideAll_get _ (X.fr.keep b o e) (nm b o e)
 refine (codeAny_call_def (body := e.body) (binds := zipV e.names vs ++ e.more) (by omega) (XK _ _ g1) rfl (ok.G.lim.keeps X.fr.keep) (by rw [g5, g6]; exact codeRec_of XK fo.code) g2 (hb oc od osl fd g1 XK)
  (by rw [g3]; exact fcell) (by
   rw [g3]
   intro x hx
   refine floc x.1 ?_
   rcases List.mem_append.mp hx with q | q
   ·exact List.mem_append_left _ (zBJ e.names vs (by rw [fo.len, hlen]) ▸ List.mem_map_of_mem q)
   ·exact List.mem_append_right _ (List.mem_map_of_mem q)) (fun h₁ hns hk₁ => ?_) (by rw [g3]; exact fo.co) (by rw [g3]; exact fo.gen) (by rw [g3]; exact fo.kind))
 rw [g4]
 let en : Env := envOf e.qual e.scope s.heap.objs.size e.fa e.cd
 let F' : Fm := ⟨F.B, hideAll s.heap (all.map (·.1)), s.heap.objs.size, en, A.deeper en, en :: F.stk, (F.L, oL) :: lw, F.quiet⟩
 have low' : LowOk (en :: F.stk) s.heap.objs.size ((F.L, oL) :: lw) := by
  exact (ok.low.ups X.ups).push (by show e.scope.kind ≠ _; rw [fo.kind]; decide) rfl fun vs q => by rw [hLd] at q; cases q
 have ok' : FmOk C F' := ⟨ok.X.keeps stay, ok.G.keeps stay, fun b o e => stay b o (ok.stay b o e), fo.kind, hh, fun q => Around.frames_deeper (hA q), ok.loud, low', rfl, rfl, rfl, fun _ _ => rfl, fun x hx => absurd rfl (nocell x hx)⟩
 have nd : ((zipV e.names vs ++ e.more).map (·.1)).Nodup := by
  rw [List.map_append, zBJ e.names vs (by rw [fo.len, hlen])]; exact fo.nd
 have R' : Rep w F' ads { loc := zipS e.names svs ++ zBh e.more, led := st.led } h₁ := by
  refine ⟨_, news, (F.L, oL) :: lw, ⟨hns, fun b o q => hk₁ b o (of_hideAll _ q), Nat.le_of_eq (hideAll_size _ _)⟩, fun p hp => ⟨hk₁ _ _ (nwA p hp).1, Nat.ne_of_lt (Heap.lt_size (nwA p hp).1), hideAll_none _ (List.mem_map_of_mem hp)⟩, ?_, X.led, ndA, Ups.refl _⟩
  intro x sv hx
  obtain ⟨v, a, b⟩ := zMH (fun y hy => fo.more y hy F.B ads) D hx
  exact ⟨v, zBN nd a, b⟩
 have T' : Then w F' ads { s with heap := h₁, toks := s.toks + (zipV e.names vs ++ e.more).length } (zNH st k) (fun c s' => match c with
   | .fl f => Rr (.ok (.ret (match f with | .ret v => v | _ => .none))) s'
   | _ => False) := by
  intro r st' more c s' hk R1 x d
  obtain ⟨m', news', lw', X'⟩ := R1
  have back : Rep w F (wa ads more) { loc := st.loc, led := st'.led } s'.heap := by
   have u := X'.ups
   have nw' := X'.nw
   have nd' := X'.nd
   cases u with
   | cons u =>
    rename_i sl lw₂
    have pm : (news' ++ ((wa ads more).fz ++ ((F.L, { oL with slots := sl }) :: lw₂))).Perm ((F.L, { oL with slots := sl }) :: (news' ++ ((wa ads more).fz ++ lw₂))) := by
     rw [← List.append_assoc, ← List.append_assoc]
     exact List.perm_middle
    have nd2 := (pm.map (·.1)).nodup_iff.mp nd'
    rw [List.map_cons, List.nodup_cons] at nd2
    have hLn := (nw' _ (pm.mem_iff.mpr (.head _))).1
    refine ⟨m, news', lw₂, ⟨⟨_, es, ep, hLn, hLd, hLk, hLf⟩, fun b o q => X'.fr.keep b o (stay b o q), X.fr.above⟩, fun p hp => ⟨(nw' p (pm.mem_iff.mpr (.tail _ hp))).1, fun q => ?_, ?_⟩, X.loc.mono, X'.led, nd2.2, X.ups.trans u⟩
    ·exact nd2.1 (List.mem_map.mpr ⟨p, hp, q⟩)
    ·cases q : F.h₀.get? p.1 with
     | none => rfl
     | some o =>
      have hz : (hideAll s.heap (all.map (·.1))).get? p.1 = none := (nw' p (pm.mem_iff.mpr (.tail _ hp))).2.2
      rw [stay _ _ q] at hz; cases hz
  have x' : Nx F s s' := (Nx.mk' s h₁ _).trans x
  cases r with
  | ret v =>
   cases c with
   | fl fl => cases fl with
    | ret u => exact hR _ _ (T.of (r := .v v) (c := .v u) hk back x' d)
    | _ => exact d.elim
   | _ => exact d.elim
  | next =>
   cases c with
   | fl fl => cases fl with
    | next => exact hR _ _ (T.of (r := .v .none) (c := .v .none) hk back x' rfl)
    | _ => exact d.elim
   | _ => exact d.elim
  | _ => exact hk.elim
 exact ih F' _ (.sts e.body) _ _ ads _ _ ok' (by show A.depth + 1 + n < _; omega) (by show A.units + 3 + 8 * n < _; omega) h R' T'
set_option backward.match.sparseCases false
theorem zCH {n f : Nat} {svs : List SV} {vs : List Value} {st : St} {k : Kt} {e : FnE} {A : Around} {Rr : Result → Shared → Prop} {Q : CR → Shared → Prop} (ih : zBE w C n) (cok : CfOk w C) (ok : FmOk C F)
  (hA : C.known = true → A.frames = some F.stk) (hh : A.handled = none) (hd : A.depth + n < recursionLimit) (hd' : A.depth + 1 + n < recursionLimit) (hu : A.units + 3 + 8 * n < cLine) (R : Rep w F ads st s.heap) (D : DenL F.B ads svs vs) (hf : zEt f svs.length C.fns = some e)
  (h : ev C n e.scope.names (.sts e.body) { loc := zipS e.names svs ++ zBh e.more, led := st.led } (zNH st k)) (T : Then w F ads s k Q) (hR : ∀ v s', Q (.v v) s' → Rr (.ok (.ret v)) s') :
  codeAny (model prog w) A (.call (.ref f) ⟨vs, []⟩) Rr s := by
 refine zDG ih cok ok hA hh hd hd' hu R D hf (fun oc od osl fd g1 XK => ?_) h T hR
 obtain ⟨hm, rfl, hna⟩ := zEs hf
 obtain ⟨oc', od', osl', fd', g1', g2, g3, g4, g5, g6, g7⟩ := (cok.fns e hm).1.at_
 rw [g1] at g1'
 cases g1'
 exact g7 s vs XK (by rw [← D.length, hna])
theorem zFt {n f : Nat} {svs : List SV} {vs : List Value} {st : St} {k : Kt} {A : Around} {Rr : Result → Shared → Prop} {Q : CR → Shared → Prop} (ih : zBE w C n) (cok : CfOk w C) (ok : FmOk C F)
  (hA : C.known = true → A.frames = some F.stk) (hh : A.handled = none) (hd' : A.depth + 1 + n < recursionLimit) (hu : A.units + 3 + 8 * n < cLine) (R : Rep w F ads st s.heap) (D : DenL F.B ads svs vs)
  (h : zGj C n (ev C n) f svs st k) (T : Then w F ads s k Q) (hR : ∀ v s', Q (.v v) s' → Rr (.ok (.ret v)) s') : codeAny (model prog w) A (.call (.ref f) ⟨vs, []⟩) Rr s := by
 unfold zGj at h
 split at h
 ·rename_i e he
  split at h
  ·rename_i hb
   obtain ⟨hm, rfl, hna⟩ := zGc he
   have l := Nat.le_of_ble_eq_true hb
   exact (cok.sps e hm).ok F A ads st s svs vs k Q Rr ok hA hh (by lia) (by lia) h R D (by rw [← D.length, hna]) T hR
  ·exact h.elim
 ·split at h
  ·rename_i e he
   exact zCH ih cok ok hA hh (by lia) hd' hu R D he h T hR
  ·exact h.elim
theorem zFs {n f : Nat} {svs : List SV} {st : St} {k : Kt} {evn : List (Str × NameKind) → Tk → St → Kt → Prop} (cok : CfOk w C) (h : zGj C n evn f svs st k) : keepIn C.K (.ref f) = true := by
 unfold zGj at h
 split at h
 ·rename_i e he
  obtain ⟨hm, rfl, hna⟩ := zGc he
  exact (cok.sps e hm).keep
 ·split at h
  ·rename_i e he
   obtain ⟨hm, rfl, hna⟩ := zEs he
   exact (cok.fns e hm).2.1
  ·exact h.elim
theorem zEz {n f : Nat} {svs : List SV} {vs : List Value} {st : St} {k : Kt} {E : Value → Shared → Prop} {Q : CR → Shared → Prop} (ih : zBE w C n) (cok : CfOk w C) (ok : FmOk C F)
  (hd : F.A.depth + (n + 1) < recursionLimit) (hu : F.A.units + 8 * (n + 1) < cLine) (R : Rep w F ads st s.heap) (D : DenL F.B ads svs vs)
  (h : zGj C n (ev C n) f svs st k) (T : Then w F ads s k Q) :
  wpAny (model prog w) F.A (call (.ref f) vs) (fun v s' => Q (.v v) s') E s :=
 wpAny_call (zFt ih cok ok ok.stack ok.hand (by lia) (by lia) R D h T fun _ _ q => q)
theorem zKT {st : St} {x : SV} {a : Str} {k : Addr → Prop} {v : Value} {E : Value → Shared → Prop} {Q : Value × List Value → Shared → Prop} {pl : Sem Bool} (cok : CfOk w C) (ok : FmOk C F) (R : Rep w F ads st s.heap) (d : Den F.B ads x v) (h : zQx C st x a k)
  (hQ : ∀ f, k f → isFn C.K (.ref f) = true → Q (.ref f, [v]) s) : wpAny (model prog w) F.A (getMethod v a pl) Q E s := by
 obtain ⟨i, rfl, g⟩ := zAz h
 obtain ⟨c, fs, hi, g⟩ := zCc g
 obtain ⟨ce, hc, g⟩ := zAK g
 obtain ⟨f, hf, g⟩ := zAK g
 obtain ⟨hn, gk⟩ := zLq g
 obtain ⟨m, news, lw, X⟩ := R
 obtain ⟨pre, post, b, dd, es, n, h1, rfl, he, I, _⟩ := zCp X hi d
 obtain ⟨hm, rfl⟩ := zDB hc
 obtain ⟨g1, g2, g3⟩ := (cok.cls ce hm).meth a f hf
 exact method_inst X.fr ok.X I g1 g2 g3 (he.miss hn) (hQ f gk g3)
theorem zKM {st : St} {x : SV} {a : Str} {f : Addr} {v : Value} {E : Value → Shared → Prop} {Q : Value → Shared → Prop} {ex : Bool} (cok : CfOk w C) (ok : FmOk C F) (R : Rep w F ads st s.heap) (d : Den F.B ads x v) (h : zSK C st x a = some f)
  (hQ : ∀ Rr : Result → Shared → Prop, (∀ u s', handedIn u = true → Q u s' → Rr (.ok (.ret u)) s') → codeAny (model prog w) F.A.in1 (.call (.ref f) ⟨[v], []⟩) Rr { s with toks := s.toks + 1 }) : wpAny (model prog w) F.A (getAttr v a ex) Q E s := by
 cases x <;> first | exact zAR h | skip
 obtain ⟨so, hi, g⟩ := zIs h
 cases so <;> first | exact zAR g | skip
 obtain ⟨ce, hc, g⟩ := zIs g
 obtain ⟨p, hf, g⟩ := zIs g
 cases g
 obtain ⟨m, news, lw, X⟩ := R
 obtain ⟨pre, post, b, dd, es, n, h1, rfl, he, I, _⟩ := zCp X hi d
 obtain ⟨hm, rfl⟩ := zDB hc
 obtain ⟨g1, g2, g3, g4, g5, rest, g6⟩ := (cok.cls ce hm).prop a p.1 p.2 hf
 refine get_prop X.fr ok.X I g1 g2 g3 g4 g5 g6 ?_
 exact hQ _ fun u s' hu hq => by
  show wpAny (model prog w) F.A (handedOut u) Q E s'
  rw [handedOut_of hu]
  exact wpAny_pure hq
end
theorem zHI : mroOf (.type "collections.deque") = pure [.type "collections.deque", .type "object"] := by rw [mroOf_type]; kernel_rfl
theorem zDn : typeLookup (.type "collections.deque") "__new__" = pure (some (.builtin "collections.deque.__new__")) := by rw [typeLookup_type, builtinLookup_eq_fast]; kernel_rfl
theorem zEK : Slot "collections.deque" "__init__" "collections.deque.__init__" :=
 .of (owner := "collections.deque") (n := "__init__") (by rw [typeLookup_type, builtinLookup_eq_fast]; kernel_rfl) (by decide +kernel) (by decide +kernel) (by decide +kernel)
  (by first | exact .inl (by decide +kernel) | exact .inr (by decide +kernel)) (by rw [isSubtype_type]; kernel_rfl)
theorem zHv : TypeCalled "collections.deque" "collections.deque.__new__" "collections.deque.__init__" :=
 ⟨by decide +kernel, by decide +kernel, ⟨_, _, zHI⟩, madeBy_type zHI zDn (by decide +kernel), by decide +kernel, by rw [isSubtype_type]; kernel_rfl, zEK⟩
theorem zDl : checkTypeCall "collections.deque" ⟨[], []⟩ = pure () := by kernel_rfl
theorem zEW : checkBuiltinCall "collections.deque.__new__" ⟨[.type "collections.deque"], []⟩ = pure () := by kernel_rfl
theorem zEu : entryFor table "collections.deque.__new__" = some Builtin.«collections.deque.__new__» := entryFor_of_tree (by kernel_rfl)
theorem zDo : entryFor table "collections.deque.__init__" = some Builtin.«collections.deque.__init__» := entryFor_of_tree (by kernel_rfl)
theorem zFD (a : Value) : argsOk "collections.deque.__init__" ⟨[a], []⟩ := by unfold argsOk; kernel_rfl
section
variable {w : World} {A : Around} {E : Value → Shared → Prop} {s : Shared}
theorem zEw : Meets (Builtin.«collections.deque.__new__» ⟨[.type "collections.deque"], []⟩) (fun _ R s => R (.ok (.ret (.ref s.heap.objs.size))) { s with heap := s.heap.push (zBR .none (rawInt 0)) }) := by
 refine Meets.of_wp fun prog w A R s hs => ?_
 have hsub : isSubtype (.type "collections.deque") (.type "collections.deque") = pure true := by rw [isSubtype_type]; kernel_rfl
 unfold Builtin.«collections.deque.__new__» Builtin.Deque.newArgs Builtin.Deque.new Builtin.Deque.ty
 repeat (any_goals (first | assumption | wp_step))
 exact ⟨_, rfl, hs⟩
theorem zDp (a : Addr) : Meets (Builtin.«collections.deque.__init__» ⟨[.ref a], []⟩) (fun _ R s => s.heap.get? a = some (zBR .none (rawInt 0)) ∧ ∀ h', h'.get? a = some (zBR .none (rawInt 0)) → Heap.SameBut a s.heap h' → R (.ok (.ret .none)) { s with heap := h' }) := by
 refine Meets.of_wp fun prog w A R s hs => ?_
 obtain ⟨ho, hq⟩ := hs
 unfold Builtin.«collections.deque.__init__»
 repeat (any_goals (first | assumption | wp_step))
 exact ⟨_, rfl, hq _ (Heap.get?_update_self _ ho rfl) (Heap.SameBut.update ..)⟩
theorem zKr {Q : Value → Shared → Prop} (h : ∀ h', h'.get? s.heap.objs.size = some (zBR .none (rawInt 0)) → Heap.SameBut s.heap.objs.size (s.heap.push (zBR .none (rawInt 0))) h' → Q (.ref s.heap.objs.size) { s with heap := h' }) :
  wpAny (model prog w) A (call (.type "collections.deque") []) Q E s := by
 refine callType_meets (Q₁ := fun v s₁ => v = .ref s.heap.objs.size ∧ s₁ = { s with heap := s.heap.push (zBR .none (rawInt 0)) }) zHv zDl zEW zEu zDo zEw ⟨rfl, rfl⟩ ?_
 rintro obj s₁ ⟨rfl, rfl⟩
 have g : (s.heap.push (zBR .none (rawInt 0))).get? s.heap.objs.size = some (zBR .none (rawInt 0)) := Heap.get?_push_size _ rfl
 exact ⟨⟨_, g, rfl⟩, zFD _, _, zDp _, g, fun h' a b => ⟨rfl, h h' a b⟩⟩
end
theorem ltD {a n r : Nat} (h : a + (n + 1) < r) : a + n < r := Nat.lt_of_succ_lt h
theorem ltU {a n r : Nat} (h : a + 8 * (n + 1) < r) : a + 8 * n < r := by lia
theorem ltDl {a n d r : Nat} (h : a + (n + 1) < r) (l : d ≤ n) : a + d < r := by lia
theorem ltUl {a n d r : Nat} (h : a + 8 * (n + 1) < r) (l : d ≤ n) : a + 8 * d < r := by lia
section
variable {w : World} {C : Cf} {F : Fm} {ads : Wd} {s : Shared} {n : Nat} {st : St} {k : Kt} {Q : CR → Shared → Prop} {E : Value → Shared → Prop}
theorem ihV (ih : zBE w C n) (ok : FmOk C F) (hd : F.A.depth + (n + 1) < recursionLimit) (hu : F.A.units + 8 * (n + 1) < cLine) {e : Expr} {K : SV → St → Prop} {G : Value → Shared → Prop} (h : ev C n F.sc.names (.ex e) st (onV K)) (R : Rep w F ads st s.heap) (T : ThenV w F ads s K G) : wpAny (model prog w) F.A (eval e F.env) G E s := by
 refine ih F E (.ex e) st (onV K) ads s (fun c s' => match c with
  | .v u => G u s'
  | _ => False) ok (ltD hd) (ltU hu) h R ?_
 intro a st₁ m1 c s₁ h R₁ x₁ d₁
 cases a <;> first | exact h.elim | skip
 cases c <;> first | exact d₁.elim | skip
 exact T _ st₁ m1 _ s₁ h R₁ x₁ d₁
theorem ihB (ih : zBE w C n) (ok : FmOk C F) (hd : F.A.depth + (n + 1) < recursionLimit) (hu : F.A.units + 8 * (n + 1) < cLine) {e : Expr} {K : Bool → St → Prop} {G : Bool → Shared → Prop} (h : ev C n F.sc.names (.tr e) st (onB K)) (R : Rep w F ads st s.heap) (T : ∀ x st₁ m1 y s₁, K x st₁ → Rep w F (wa ads m1) st₁ s₁.heap → Nx F s s₁ → x = y → G y s₁) : wpAny (model prog w) F.A (PySem.isTrue e F.env (eval e F.env)) G E s := by
 refine ih F E (.tr e) st (onB K) ads s (fun c s' => match c with
  | .b u => G u s'
  | _ => False) ok (ltD hd) (ltU hu) h R ?_
 intro a st₁ m1 c s₁ h R₁ x₁ d₁
 cases a <;> first | exact h.elim | skip
 cases c <;> first | exact d₁.elim | skip
 exact T _ st₁ m1 _ s₁ h R₁ x₁ d₁
theorem ihVs (ih : zBE w C n) (ok : FmOk C F) (hd : F.A.depth + (n + 1) < recursionLimit) (hu : F.A.units + 8 * (n + 1) < cLine) {es : List Expr} {pos : Pos} {K : List SV → St → Prop} {G : List Value → Shared → Prop} (h : ev C n F.sc.names (.args es pos) st (onVs K)) (R : Rep w F ads st s.heap) (T : ∀ x st₁ m1 y s₁, K x st₁ → Rep w F (wa ads m1) st₁ s₁.heap → Nx F s s₁ → DenL F.B (wa ads m1) x y → G y s₁) : wpAny (model prog w) F.A (spliced (backTo pos (starEach es F.env))) G E s := by
 refine ih F E (.args es pos) st (onVs K) ads s (fun c s' => match c with
  | .vs u => G u s'
  | _ => False) ok (ltD hd) (ltU hu) h R ?_
 intro a st₁ m1 c s₁ h R₁ x₁ d₁
 cases a <;> first | exact h.elim | skip
 cases c <;> first | exact d₁.elim | skip
 exact T _ st₁ m1 _ s₁ h R₁ x₁ d₁
theorem zDz {x : Stmt} {a b : Nat} {p : Prop} (cok : CfOk w C) (ok : FmOk C F) (hd : F.A.depth + (n + 1) < recursionLimit) (hu : F.A.units + 8 * (n + 1) < cLine) (h : hkT (zBc a b C.hss) n x F.sc.names st k p) (R : Rep w F ads st s.heap) (T : Then w F ads s k Q) (no : p → Goal w F (.st x) Q E s) : Goal w F (.st x) Q E s := by
 cases hf : zBc a b C.hss with
 | none => rw [hf] at h; exact no h
 | some hk =>
  rw [hf] at h
  obtain ⟨hb, e, h⟩ := zAp h
  have l := Nat.le_of_ble_eq_true hb
  have z := cok.hss hk (zGd hf) F E ads st s k Q ok (ltDl hd l) (ltUl hu l) h R T
  rw [e] at z
  exact z
theorem zJa {x : Expr} {a b : Nat} {p : Prop} (cok : CfOk w C) (ok : FmOk C F) (hd : F.A.depth + (n + 1) < recursionLimit) (hu : F.A.units + 8 * (n + 1) < cLine) (h : hkT (zBc a b C.hxs) n x F.sc.names st k p) (R : Rep w F ads st s.heap) (T : Then w F ads s k Q) (no : p → Goal w F (.ex x) Q E s) : Goal w F (.ex x) Q E s := by
 cases hf : zBc a b C.hxs with
 | none => rw [hf] at h; exact no h
 | some hk =>
  rw [hf] at h
  obtain ⟨hb, e, h⟩ := zAp h
  have l := Nat.le_of_ble_eq_true hb
  have z := cok.hxs hk (zGd hf) F E ads st s k Q ok (ltDl hd l) (ltUl hu l) h R T
  rw [e] at z
  exact z
theorem zJu {x : Str} {p : Pos} (cok : CfOk w C) (ok : FmOk C F) (h : ev C (n + 1) F.sc.names (.ex (.Name x p)) st k) (R : Rep w F ads st s.heap) (T : Then w F ads s k Q) : Goal w F (.ex (.Name x p)) Q E s := by
 obtain ⟨hdb, h⟩ := zCu h
 have hdb' : (x == ("__debug__" : Str)) = false := by rw [zBX]; exact hdb
 rcases zOM h with ⟨hk, h⟩ | ⟨hk, h⟩ | ⟨hk, h⟩
 ·rw [zAV] at hk
  obtain ⟨v, hv, h⟩ := zAK h
  obtain ⟨m, news, lw, u, X, a, b⟩ := zCo R hv
  exact ldE ok X.fr hk a (T.same (r := .v v) (c := .v u) h ⟨m, news, lw, X⟩ (Nx.refl s) b) hdb'
 ·rw [zAV] at hk
  obtain ⟨v, hv, h⟩ := zAK h
  obtain ⟨m, news, lw, X⟩ := R
  obtain ⟨d, g⟩ := cok.globs x v hv
  obtain ⟨mg, mb, G1, G2, G3⟩ := ok.G.ns
  have fin : Q (.v v) s := T.same (r := .v (toSV v)) (c := .v v) h ⟨m, news, lw, X⟩ (Nx.refl s) (d F.B ads)
  rcases g with g | ⟨g, g', g''⟩
  ·exact ldG ok X.fr G1 (mg_of ok.X G1 g) fin hk hdb'
  ·exact ldB ok X.fr G1 (mg_none_of ok.X G1 g) G2 ((G3 x g'').trans g') fin hk hdb'
 ·rw [zAV] at hk
  obtain ⟨y, hi, h⟩ := zAK h
  obtain ⟨i, rfl, h⟩ := zAz h
  obtain ⟨o, hv, h⟩ := zDM h
  obtain ⟨v, rfl, h⟩ := zAK h
  exact wpAny_Name (zNw ok R hk hi hv fun u d => T.same (r := .v v) (c := .v u) h R (Nx.refl s) d) hdb'
theorem zIQ {c : Const} {q : Nat} {p : Pos} (h : ev C (n + 1) F.sc.names (.ex (.Constant c q p)) st k) (R : Rep w F ads st s.heap) (T : Then w F ads s k Q) : Goal w F (.ex (.Constant c q p)) Q E s := by
 cases c <;> first | exact False.elim h | skip
 ·exact wpAny_Constant_none (T.same (r := .v .none) (c := .v .none) h R (Nx.refl s) rfl)
 ·exact wpAny_Constant_bool (T.same (r := .v (.bool _)) (c := .v (.bool _)) h R (Nx.refl s) rfl)
 ·exact wpAny_Constant_int (T.same (r := .v (.int _)) (c := .v (.int _ _)) h R (zAa s _) ⟨_, rfl⟩)
 ·conv at h => whnf
  split at h
  ·rename_i hl
   exact wpAny_Constant_str (T.same (r := .v (.str _)) (c := .v (.str _ _)) h R (zAa s _) ⟨⟨_, rfl⟩, zJT hl⟩)
  ·exact h.elim
theorem zLT {l r : Expr} {op : Operator} {p : Pos} (ih : zBE w C n) (ok : FmOk C F) (hd : F.A.depth + (n + 1) < recursionLimit) (hu : F.A.units + 8 * (n + 1) < cLine) (h : ev C (n + 1) F.sc.names (.ex (.BinOp l op r p)) st k) (R : Rep w F ads st s.heap) (T : Then w F ads s k Q) : Goal w F (.ex (.BinOp l op r p)) Q E s := by
 conv at h => whnf
 refine wpAny_BinOp (ihV ih ok hd hu h R ?_)
 intro xv st₁ m1 a s₁ h R₁ x₁ d₁
 refine ihV ih ok hd hu h R₁ ?_
 intro yv st₂ m2 b s₂ h R₂ x₂ d₂
 split at h
 ·cases op <;> first | exact False.elim h | skip
  ·exact zKt ok R₂ (Den.mono d₁) d₂ (k := fun ds => k (.v (.dat (.list ds))) st₂) h fun ds more v s' hk R' x' d => ((T.later (more := m1) x₁).later (more := m2) x₂).of (r := .v (.dat (.list ds))) (c := .v v) hk R' x' d
 ·exact zNF (Den.mono d₁) d₂ h fun z v t hk d => (T.later (more := m1) x₁).of (r := .v z) (c := .v v) hk R₂ (x₂.trans (zAa s₂ t)) d
theorem zFr {n : Nat} {op : CmpOp} {x y : SV} {a b : Value} {k : Bool → Prop} {Q : Value → Shared → Prop} (ok : FmOk C F) (hu : F.A.units + 8 * (n + 1) < cLine) (R : Rep w F ads st s.heap) (dx : Den F.B ads x a) (dy : Den F.B ads y b) (h : cmpA n st op x y k)
  (hQ : ∀ c t, k c → Q (.bool c) { s with toks := t }) : wpAny (model prog w) F.A (compareOp op a b) Q E s := by
 unfold cmpA at h
 split at h
 ·cases op <;> first | exact zHs R dx dy h hQ | skip
  ·exact zHi (ne := false) ok hu R dx dy h fun c hc => hQ c s.toks hc
  ·exact zHi (ne := true) ok hu R dx dy h fun c hc => hQ (!c) s.toks hc
 ·exact zHs R dx dy h hQ
theorem zLS {l : Expr} {ops : List CmpOp} {rs : List Expr} {p : Pos} (ih : zBE w C n) (ok : FmOk C F) (hd : F.A.depth + (n + 1) < recursionLimit) (hu : F.A.units + 8 * (n + 1) < cLine) (h : ev C (n + 1) F.sc.names (.ex (.Compare l ops rs p)) st k) (R : Rep w F ads st s.heap) (T : Then w F ads s k Q) : Goal w F (.ex (.Compare l ops rs p)) Q E s := by
 obtain ⟨op, rfl, h⟩ := zBk h
 obtain ⟨r, rfl, h⟩ := zBk h
 obtain ⟨hb, h⟩ := zCu h
 refine wpAny_Compare1 (ihV ih ok hd hu h R ?_) hb
 intro xv st₁ m1 a s₁ h R₁ x₁ d₁
 refine ihV ih ok hd hu h R₁ ?_
 intro yv st₂ m2 b s₂ h R₂ x₂ d₂
 exact zFr ok hu R₂ (Den.mono d₁) d₂ h fun z t hk => (T.later (more := m1) x₁).of (r := .v (.bool z)) (c := .v (.bool z)) hk R₂ (x₂.trans (zAa s₂ t)) rfl
theorem zJy {op : BoolOp} {vs : List Expr} {p : Pos} (ih : zBE w C n) (ok : FmOk C F) (hd : F.A.depth + (n + 1) < recursionLimit) (hu : F.A.units + 8 * (n + 1) < cLine) (h : ev C (n + 1) F.sc.names (.ex (.BoolOp op vs p)) st k) (R : Rep w F ads st s.heap) (T : Then w F ads s k Q) : Goal w F (.ex (.BoolOp op vs p)) Q E s := by
 conv at h => whnf
 split at h
 ·exact BoolOp_one (ih F E (.ex _) st k ads s Q ok (ltD hd) (ltU hu) h R T)
 ·rename_i e₁ e₂ rest
  split at h
  ·refine BoolOp_and (ihV ih ok hd hu h R ?_)
   intro a st₁ m1 a s₁ h R₁ x₁ d₁
   refine zCa R₁ d₁ h fun c t hc => ?_
   have z := zBO hc
   split
   ·rename_i hct
    exact ih F E (.ex _) st₁ k (wa ads m1) _ Q ok (ltD hd) (ltU hu) (z.1 hct) R₁ (T.later (x₁.trans (zAa s₁ t)))
   ·rename_i hct
    exact T.of (z.2 (by simpa using hct)) R₁ (x₁.trans (zAa s₁ t)) d₁
  ·refine BoolOp_or (ihV ih ok hd hu h R ?_)
   intro a st₁ m1 a s₁ h R₁ x₁ d₁
   refine zCa R₁ d₁ h fun c t hc => ?_
   have z := zBO hc
   split
   ·rename_i hct
    exact T.of (z.1 hct) R₁ (x₁.trans (zAa s₁ t)) d₁
   ·rename_i hct
    exact ih F E (.ex _) st₁ k (wa ads m1) _ Q ok (ltD hd) (ltU hu) (z.2 (by simpa using hct)) R₁ (T.later (x₁.trans (zAa s₁ t)))
 ·exact h.elim
theorem zNG {o : Expr} {a : Str} {env : Env} (h : zEU o = true) : attributeBase o a env (eval o env) = eval o env := by
 cases o <;> first | rfl | cases h
theorem zJz {o : Expr} {a : Str} {p : Pos} (ih : zBE w C n) (cok : CfOk w C) (ok : FmOk C F) (hd : F.A.depth + (n + 1) < recursionLimit) (hu : F.A.units + 8 * (n + 1) < cLine) (h : ev C (n + 1) F.sc.names (.ex (.Attribute o a p)) st k) (R : Rep w F ads st s.heap) (T : Then w F ads s k Q) : Goal w F (.ex (.Attribute o a p)) Q E s := by
 conv at h => whnf
 split at h
 ·exact h.elim
 ·rename_i hb
  refine Attribute_any_ (ihV ih ok hd hu h R ?_) (by
    show (do
     let o' ← attributeBase o a F.env (eval o F.env)
     standAt p.atName
     let r ← holding [o'] (getAttr o' a true)
     letTemporaryGo o o' r
     pure r) = _
    rw [zNG hb])
  intro xv st₁ m1 u s₁ h R₁ x₁ d₁
  split at h
  ·rename_i f hf
   refine zKM cok ok R₁ d₁ hf fun Rr hR => ?_
   refine zFt (Q := fun c s' => match c with | .v u => handedIn u = true ∧ Q (.v u) s' | _ => True) ih cok ok (A := F.A.in1) (fun q => (show F.A.in1.frames = some F.stk from ok.stack q)) ok.hand (by show F.A.depth + 1 + n < _; lia) (by show F.A.units + 1 + 3 + 8 * n < _; lia) (s := { s₁ with toks := s₁.toks + 1 }) R₁ (.cons d₁ .nil) h ?_ fun v s' q => hR v s' q.1 q.2
   intro r st' more c s' hk R' x' d'
   cases c with
   | v u' =>
    cases r with
    | v y => exact ⟨Den.handed d', (T.later (more := m1) x₁).of (r := .v y) hk R' ((zAa s₁ _).trans x') d'⟩
    | _ => exact d'.elim
   | _ => exact trivial
  ·refine zFv cok ok R₁ d₁ h fun y u' t hk d' => ?_
   exact T.of (r := .v y) (c := .v u') hk R₁ (x₁.trans (zAa s₁ t)) d'
theorem zGx {e : Expr} {rest : List Expr} {env : Env} (h : zBZ (e :: rest) = true) : starEach (e :: rest) env = (false, eval e env) :: starEach rest env ∧ zBZ rest = true := by
 cases e <;> first | exact ⟨rfl, h⟩ | cases h
theorem zDt {env : Env} {pos : Pos} : ∀ {es : List Expr}, zBZ es = true → (backTo pos (starEach es env)).any (·.1) = false ∧ (backTo pos (starEach es env)).all (fun x => !x.1) = true
 | [], _ => ⟨rfl, rfl⟩
 | e :: rest, h => by
  obtain ⟨a, b⟩ := zGx (env := env) h
  obtain ⟨c, d⟩ := zDt (env := env) (pos := pos) b
  rw [a]
  constructor
  ·show (false || (backTo pos (starEach rest env)).any (·.1)) = false
   rw [c]; rfl
  ·show (!false && (backTo pos (starEach rest env)).all (fun x => !x.1)) = true
   rw [d]; rfl
theorem zCd {f : Value} {es : List Expr} {pos : Pos} {A : Around} {M : Model} {env : Env} {Q : Args → Shared → Prop} (hs : zBZ es = true) (h : wpAny M A (spliced (backTo pos (starEach es env))) (fun vs s' => Q ⟨vs, []⟩ s') E s) :
  wpAny M A (evalArgs f true (backTo pos (starEach es env)) []) Q E s := by
 cases es with
 | nil =>
  exact h
 | cons e rest =>
  obtain ⟨a, b⟩ := zGx (env := env) hs
  rw [a] at h ⊢
  exact evalArgs_plain h
theorem zKA {es : List Expr} {p : Pos} (ih : zBE w C n) (ok : FmOk C F) (hd : F.A.depth + (n + 1) < recursionLimit) (hu : F.A.units + 8 * (n + 1) < cLine) (h : ev C (n + 1) F.sc.names (.args es p) st k) (R : Rep w F ads st s.heap) (T : Then w F ads s k Q) : Goal w F (.args es p) Q E s := by
 cases es with
 | nil => exact spliced_none (T.same (r := .vs []) (c := .vs []) h R (Nx.refl s) .nil)
 | cons e rest =>
  obtain ⟨hns, h⟩ := zCu h
  refine spliced_more (ihV ih ok hd hu h R ?_) (by cases e <;> first | rfl | cases hns)
  intro xv st₁ m1 u s₁ h R₁ x₁ d₁
  refine ihVs ih ok hd hu h R₁ ?_
  intro b st₂ m2 us s₂ h R₂ x₂ d₂
  exact (T.later (more := m1) x₁).of (r := .vs _) (c := .vs _) h R₂ x₂ (.cons (Den.mono d₁) d₂)
theorem zBe {K : Frag} {f : Value} {first : List Value} {args : List Expr} {p : Pos} {A : Around} {M : Model} {env : Env} {Q : Value → Shared → Prop} (hs : zBZ args = true)
  (h : wpAny M A (spliced (backTo p (starEach args env))) (fun vs s' => (K.In s'.heap ∧ keepIn K f = true) ∧ wpAny M A (call f (first ++ vs)) Q E s') E s) :
  wpAny M A (callWith p f first (backTo p (starEach args env)) []) Q E s :=
 callWith_of (P := fun h => K.In h ∧ keepIn K f = true) (by rw [(zDt (env := env) (pos := p) hs).1]; rfl) (fun h q => keeps_K q.2 h q.1)
  (zCd (Q := fun a s₁ => (K.In s₁.heap ∧ keepIn K f = true) ∧ wpAny M A (call f (first ++ a.pos) a.kw) Q E s₁) hs h)
theorem zIg {M : Model} {f : Value} (hf : ∀ a, f ≠ .ref a) (h : Heap) : ∃ k, (k = Keeper.frame ∨ k = Keeper.machine ∨ k = Keeper.boundFrame) ∧ Looks M h (keeperOf f) k :=
 ⟨.machine, .inr (.inl rfl), Looks.of_pure (by cases f <;> first | rfl | exact absurd rfl (hf _))⟩
theorem zAS {f : Value} {first : List Value} {args : List Expr} {p : Pos} {A : Around} {M : Model} {env : Env} {Q : Value → Shared → Prop} (hf : ∀ a, f ≠ .ref a) (hs : zBZ args = true)
  (h : wpAny M A (spliced (backTo p (starEach args env))) (fun vs s' => wpAny M A (call f (first ++ vs)) Q E s') E s) :
  wpAny M A (callWith p f first (backTo p (starEach args env)) []) Q E s :=
 callWith_of (P := fun _ => True) (by rw [(zDt (env := env) (pos := p) hs).1]; rfl) (fun h _ => zIg hf h)
  (zCd (Q := fun a s₁ => True ∧ wpAny M A (call f (first ++ a.pos) a.kw) Q E s₁) hs (wpAny_mono h (fun _ _ x => ⟨trivial, x⟩) fun _ _ x => x))
theorem zFL (ok : FmOk C F) (R : Rep w F ads st s.heap) : C.K.In s.heap := let ⟨_, _, _, X⟩ := R; ok.X.keeps X.fr.keep
theorem zPE {x : SV} {a : Str} {k : String → Prop} {v : Value} {Q : Value × List Value → Shared → Prop} {pl : Sem Bool} (cok : CfOk w C) (ok : FmOk C F) (R : Rep w F ads st s.heap) (d : Den F.B ads x v) (h : bmT st x a k)
  (hQ : ∀ mid, k mid → Q (.builtin mid, [v]) s) : wpAny (model prog w) F.A (getMethod v a pl) Q E s := by
 cases x <;> first | exact False.elim h | skip
 ·obtain ⟨⟨t, rfl⟩, _⟩ := d
  conv at h => whnf
  split at h
  ·rename_i q; rw [zAO q]; exact GM.join (hQ _ h)
  ·split at h
   ·rename_i q; rw [zAO q]; exact GM.strip (hQ _ h)
   ·split at h
    ·rename_i q; rw [zAO q]; exact GM.split (hQ _ h)
    ·split at h
     ·rename_i q; rw [zAO q]; exact GM.startswith (hQ _ h)
     ·split at h
      ·rename_i q; rw [zAO q]; exact GM.endswith (hQ _ h)
      ·exact h.elim
 ·rename_i i
  obtain ⟨xs, hi, h⟩ := zCO h
  obtain ⟨l, vs, n, rfl, ho, D, upd⟩ := zBq R hi d
  have hl : s.heap.IsList l vs.toArray := ⟨_, ho, rfl, n, rfl⟩
  split at h
  ·rename_i q; rw [zAO q]
   exact PyProof.Rows.getMethod_list_of PySem.F.slot_list_append PySem.F.type_list_append hl ⟨_, ho, rfl⟩ (hQ _ h)
  ·split at h
   ·rename_i q; rw [zAO q]
    exact PyProof.Rows.getMethod_list_of PySem.F.slot_list_pop PySem.F.type_list_pop hl ⟨_, ho, rfl⟩ (hQ _ h)
   ·exact h.elim
theorem zGL {B : Heap} {fz : List (Addr × Obj)} : ∀ {vs : List Value} {ts : List Str}, RdL B fz vs (ts.map .str) → ∃ l : List (Str × Tok), vs = strValues l ∧ l.map (·.1) = ts
 | vs, [], h => by cases h; exact ⟨[], rfl, rfl⟩
 | vs, t :: ts, h => by
  cases h with
  | cons a r =>
   cases a with
   | str _ u =>
    obtain ⟨l, e1, e2⟩ := zGL r
    exact ⟨(t, u) :: l, by rw [e1]; rfl, by rw [List.map_cons, e2]⟩
theorem zLO {B : Heap} {fz : List (Addr × Obj)} : ∀ (l : List (Str × Tok)), RdL B fz (strValues l) ((l.map (·.1)).map .str)
 | [] => .nil
 | (t, u) :: l => .cons (.str t u) (zLO l)
theorem zPG {mid : String} {x : SV} {u : Value} {svs : List SV} {vs : List Value} {k : SV → St → Prop} {Q : Value → Shared → Prop} (cok : CfOk w C) (ok : FmOk C F) (hu : F.A.units + 8 * (n + 1) < cLine) (R : Rep w F ads st s.heap) (d : Den F.B ads x u) (D : DenL F.B ads svs vs)
  (h : bcT mid st x svs k) (T : ThenV w F ads s k Q) : wpAny (model prog w) F.A (call (.builtin mid) ([u] ++ vs)) Q E s := by
 rcases zAX h with ⟨e, g⟩ | h0 <;> clear h
 ·subst e
  obtain ⟨sep, rfl, g1⟩ := zAi g
  obtain ⟨v, rfl, g2⟩ := zAc g1
  obtain ⟨_, rfl, dv⟩ := D.one
  obtain ⟨⟨t, rfl⟩, l⟩ := d
  obtain ⟨a, us, ds, rfl, hl, f, r, hle, ts, rfl, h1, h2, h3⟩ := zBA ok R dv g2
  obtain ⟨l', e1, e2⟩ := zGL r
  subst e1
  exact SC.join hl e2 h1 fun t' kk => T.same h3 R (zAa s kk) ⟨⟨_, rfl⟩, h2⟩
 rcases zAX h0 with ⟨e, g⟩ | h <;> clear h0
 ·subst e
  obtain ⟨y, rfl, g1⟩ := zAi g
  obtain ⟨rfl, g2⟩ := zGQ g1
  cases D
  obtain ⟨⟨t, rfl⟩, l⟩ := d
  exact SCL.strip (fun t' kk hl => T.same g2 R (zAa s kk) ⟨⟨_, rfl⟩, Nat.le_trans hl l⟩) l
 rcases zAX h with ⟨e, g⟩ | h0 <;> clear h
 ·subst e
  obtain ⟨x, rfl, g1⟩ := zAi g
  obtain ⟨_, _, rfl, g2⟩ := zGP g1
  obtain ⟨y, rfl, g3⟩ := zAi g2
  obtain ⟨m, rfl, g4⟩ := zCP g3
  obtain ⟨_, _, rfl, d1, d2⟩ := D.two
  obtain ⟨⟨t, rfl⟩, l⟩ := d
  obtain ⟨⟨t1, rfl⟩, l1⟩ := d1
  obtain ⟨t2, rfl⟩ := d2
  obtain ⟨h1, h2, h3, h4, h5⟩ := g4
  obtain ⟨mm, news, lw, X⟩ := R
  refine PyProof.Rows.splitN2A X.fr X.nw h1 h2 (fun lst h' tk e1 e2 e3 e4 F' N' => ?_) h3
  refine T _ st ⟨[], [(s.heap.objs.size, zCU (strValues lst) 0)]⟩ _ _ h5 (zIU X F' N' (Nat.le_refl _)) (Nx.of_gens rfl rfl rfl) ?_
  rw [← e1]
  refine zGg (by rw [List.length_map, e1]; exact h4) (fun d hd => ?_) (zLO lst)
  obtain ⟨a, ha, rfl⟩ := List.mem_map.mp hd
  exact .str (Nat.le_trans (e3 a ha) l)
 rcases zAX h0 with ⟨e, g⟩ | h <;> clear h0
 ·subst e
  obtain ⟨x, rfl, g1⟩ := zAi g
  obtain ⟨_, rfl, g2⟩ := zAc g1
  obtain ⟨y, rfl, g3⟩ := zAi g2
  obtain ⟨_, rfl, d1⟩ := D.one
  obtain ⟨⟨t, rfl⟩, l⟩ := d
  obtain ⟨⟨t1, rfl⟩, l1⟩ := d1
  exact SC.startswith (T.same g3 R (Nx.refl s) rfl)
 rcases zAX h with ⟨e, g⟩ | h0 <;> clear h
 ·subst e
  obtain ⟨x, rfl, g1⟩ := zAi g
  obtain ⟨_, rfl, g2⟩ := zAc g1
  obtain ⟨y, rfl, g3⟩ := zAi g2
  obtain ⟨_, rfl, d1⟩ := D.one
  obtain ⟨⟨t, rfl⟩, l⟩ := d
  obtain ⟨⟨t1, rfl⟩, l1⟩ := d1
  exact SC.endswith (T.same g3 R (Nx.refl s) rfl)
 rcases zAX h0 with ⟨e, g⟩ | h <;> clear h0
 ·subst e
  obtain ⟨i, rfl, g1⟩ := zAz g
  obtain ⟨y, rfl, g2⟩ := zAc g1
  obtain ⟨_, rfl, d1⟩ := D.one
  obtain ⟨ys, hi, g2⟩ := zCO g2
  exact zDi R d hi d1 g2.1 fun h' R' => T.same g2.2 R' (Nx.of_gens rfl rfl rfl) rfl
 rcases zAX h with ⟨e, g⟩ | h0 <;> clear h
 ·subst e
  obtain ⟨i, rfl, g1⟩ := zAz g
  obtain ⟨rfl, g2⟩ := zGQ g1
  cases D
  obtain ⟨xs, y, hi, hl, h⟩ := g2
  exact zLo R d hi hl fun h' v R' dv => T.same h R' (Nx.of_gens rfl rfl rfl) dv
 exact h0.elim
theorem zBg (R : Rep w F ads st s.heap) : st.led.length = ads.ads.length := let ⟨_, _, _, X⟩ := R; X.led.length
theorem zBz (ads : Wd) (a d : Addr) : (wa ads (Wd.one a d)).ads[ads.ads.length]? = some (a, d) := by rw [Wd.ads_append]; simp [Wd.one]
theorem zPF {f : Value} {svs : List SV} {vs : List Value} {k : SV → St → Prop} {Q : Value → Shared → Prop} (cok : CfOk w C) (ok : FmOk C F) (hu : F.A.units + 8 * (n + 1) < cLine) (R : Rep w F ads st s.heap) (D : DenL F.B ads svs vs)
  (h : bfT f svs st k) (T : ThenV w F ads s k Q) : wpAny (model prog w) F.A (call f ([] ++ vs)) Q E s := by
 rw [List.nil_append]
 cases f <;> first | exact False.elim h | skip
 rotate_left
 ·rcases zAX h with ⟨e, g⟩ | h0 <;> clear h
  ·subst e
   obtain ⟨x, rfl, g1⟩ := zAc g
   obtain ⟨_, rfl, d⟩ := D.one
   split at g1
   ·rename_i q
    obtain rfl := zFT q
    obtain ⟨⟨t, rfl⟩, l⟩ := d
    exact SBL.len (by rw [sizeLine_eq] at l; lia) (T.same g1 R (zAa s _) ⟨_, rfl⟩)
   ·obtain ⟨⟨b, xs⟩, hx, g1⟩ := zAK g1
    exact zML ok R d hx g1.1 fun t t' => T.same g1.2 R (zAa s _) ⟨_, rfl⟩
  rcases zAX h0 with ⟨e, g⟩ | h <;> clear h0
  ·subst e
   obtain ⟨x, y, rfl, g1⟩ := zGP g
   obtain ⟨_, _, rfl, d, d'⟩ := D.two
   cases y <;> first | exact False.elim g1 | skip
   rename_i v
   cases v <;> first | exact False.elim g1 | skip
   obtain ⟨rfl, _⟩ := d'
   cases x <;> first | exact False.elim g1 | skip
   ·obtain ⟨⟨t, rfl⟩, l⟩ := d
    obtain ⟨rfl, g2⟩ := g1
    exact IsiPair.str_str (T.same g2 R (Nx.refl s) rfl)
   ·rename_i dd
    cases dd <;> first | exact False.elim g1 | skip
    obtain ⟨⟨a, rfl⟩, f, rd⟩ := d
    obtain ⟨rfl, g2⟩ := g1
    cases rd with
    | list g c q r => exact IsiPair.list_str (g.look (zCM ok R)) c (T.same g2 R (zAa s _) rfl)
  ·exact h.elim
 ·rcases zAX h with ⟨e, g⟩ | h0 <;> clear h
  ·subst e
   obtain ⟨x, rfl, g1⟩ := zAc g
   obtain ⟨_, rfl, d⟩ := D.one
   cases x <;> first | exact False.elim g1 | skip
   ·obtain ⟨t, rfl⟩ := d
    exact call_type_of (typeIs_int s _ _) (by decide +kernel) (T.same g1 R (Nx.refl s) ⟨rfl, rfl⟩)
   ·obtain ⟨⟨t, rfl⟩, _⟩ := d
    exact call_type_of (typeIs_str s _ _) (by decide +kernel) (T.same g1 R (Nx.refl s) ⟨rfl, rfl⟩)
  rcases zAX h0 with ⟨e, g⟩ | h <;> clear h0
  ·subst e
   obtain ⟨x, rfl, g1⟩ := zAc g
   obtain ⟨i, rfl, g2⟩ := zCP g1
   obtain ⟨_, rfl, d⟩ := D.one
   obtain ⟨t, rfl⟩ := d
   exact call_int_int (T.same g2 R (Nx.refl s) ⟨_, rfl⟩)
  rcases zAX h with ⟨e, g⟩ | h0 <;> clear h
  ·subst e
   obtain ⟨x, rfl, g1⟩ := zAc g
   obtain ⟨i, rfl, g2⟩ := zCP g1
   obtain ⟨_, rfl, d⟩ := D.one
   obtain ⟨t, rfl⟩ := d
   obtain ⟨h1, h2, h3⟩ := g2
   exact PyProof.Rows.str_of_int_fit (N := 4611686018427387904) (by split <;> lia) (Int.le_refl _) fun _ => T.same h3 R (zAa s _) ⟨⟨_, rfl⟩, h2⟩
  rcases zAX h0 with ⟨e, g⟩ | h <;> clear h0
  ·subst e
   obtain ⟨x, rfl, g1⟩ := zAc g
   obtain ⟨i, rfl, g2⟩ := zCP g1
   obtain ⟨_, rfl, d⟩ := D.one
   obtain ⟨t, rfl⟩ := d
   obtain ⟨h1, h2, h3⟩ := g2
   obtain ⟨j, rfl⟩ := Int.eq_ofNat_of_zero_le h1
   refine call_range_1 ?_
   refine T (.obj st.led.length) _ (.one s.heap.objs.size 0) _ _ h3 (zAr rfl R (.rng h2)) (Nx.of_gens rfl rfl rfl) ⟨(s.heap.objs.size, 0), ?_, rfl⟩
   rw [zBg R]; exact zBz _ _ _
  rcases zAX h with ⟨e, g⟩ | h0 <;> clear h
  ·subst e
   obtain ⟨rfl, g1⟩ := zGQ g
   cases D
   refine zKr fun h' e1 e2 => ?_
   have R' : Rep w F (wa ads (.one s.heap.objs.size 0)) { st with led := st.led ++ [.raw (zBR .none (rawInt 0))] } h' := by
    refine zCn (zAr (o := zBR .none (rawInt 0)) rfl R .raw) fun b o q => ?_
    by_cases z : b = s.heap.objs.size
    ·subst z
     rw [Heap.get?_push_size _ rfl] at q; cases q
     exact e1
    ·rw [e2.2 b z]; exact q
   refine T (.obj st.led.length) _ (.one s.heap.objs.size 0) _ _ g1 R' (Nx.of_gens rfl rfl rfl) ⟨(s.heap.objs.size, 0), ?_, rfl⟩
   rw [zBg R]; exact zBz _ _ _
  ·exact h0.elim
theorem zMC {o : Expr} {apos p : Pos} {env : Env} (h : (apos.endLine == p.line) = true) : methodCallPos true o env apos p = pure p := if_pos h
theorem zMD {o : Expr} {args : List Expr} {apos p : Pos} (h : mcOk o args apos p = true) : zBZ args = true := by
 exact (zAM (zAM (zAM h).1).1).2
theorem zEY {o : Expr} {m : Str} {args : List Expr} {apos p : Pos} {env : Env} (hb : attributeBase o m env (eval o env) = eval o env) (b2 : zBZ args = true) (b3 : Nat.ble args.length 20 = true) (b4 : (apos.endLine == p.line) = true) : eval (.Call (.Attribute o m apos) args [] p) env = (do
  let ov ← eval o env
  standAt apos.atName
  let (f, first) ← holding [ov] (getMethod ov m (do return (← importBound o env).getD true))
  callWith p f first (backTo p (starEach args env)) []) := by
 have few : methodCallForm (args.length + ([] : List Keyword).length) (backTo p (starEach args env)) (backToKw p (keywordEach [] env)) = true := by
  unfold methodCallForm
  have l := Nat.le_of_ble_eq_true b3
  have z : (backTo p (starEach args env)).all (!·.1) = true := (zDt (env := env) (pos := p) b2).2
  rw [z]
  exact decide_eq_true (show args.length + 0 + 0 < 30 by lia)
 show (do
  let ov ← attributeBase o m env (eval o env)
  standAt apos.atName
  methodCall o m apos p env ov (args.length + ([] : List Keyword).length) (backTo p (starEach args env)) (backToKw p (keywordEach [] env))) = _
 rw [hb]
 unfold methodCall
 rw [few, zMC b4]
 rfl
theorem zDy {o : Expr} {m : Str} {args : List Expr} {apos p : Pos} {env : Env} (hmc : mcOk o args apos p = true) : eval (.Call (.Attribute o m apos) args [] p) env = (do
  let ov ← eval o env
  standAt apos.atName
  let (f, first) ← holding [ov] (getMethod ov m (do return (← importBound o env).getD true))
  callWith p f first (backTo p (starEach args env)) []) :=
 let h := zAM hmc
 let h1 := zAM h.1
 let h2 := zAM h1.1
 zEY (zNG h2.1) h2.2 h1.2 h.2
theorem zJx {f : Expr} {args : List Expr} {kws : List Keyword} {p : Pos} (ih : zBE w C n) (cok : CfOk w C) (ok : FmOk C F) (hd : F.A.depth + (n + 1) < recursionLimit) (hu : F.A.units + 8 * (n + 1) < cLine) (h : ev C (n + 1) F.sc.names (.ex (.Call f args kws p)) st k) (R : Rep w F ads st s.heap) (T : Then w F ads s k Q) : Goal w F (.ex (.Call f args kws p)) Q E s := by
 refine zJa cok ok hd hu h R T ?_
 clear h
 intro h
 cases kws <;> first | exact False.elim h | skip
 ·cases f <;> first | exact False.elim h | skip
  ·rename_i o m apos
   conv at h => whnf
   split at h
   ·exact h.elim
   rename_i hmc
   have hns := zMD hmc
   refine MethodCall_ (ihV ih ok hd hu h R ?_) (zDy hmc)
   intro xv st₁ m1 u s₁ h R₁ x₁ d₁
   split at h
   ·refine zKT cok ok R₁ d₁ h fun fa h hfn => ?_
    refine zBe (K := C.K) hns (ihVs ih ok hd hu h R₁ ?_)
    intro b st₂ m2 us s₂ h R₂ x₂ d₂
    exact ⟨⟨zFL ok R₂, zFs cok h⟩, zEz ih cok ok hd hu R₂ (.cons (Den.mono d₁) d₂) h ((T.later (more := m1) x₁).later (more := m2) x₂)⟩
   ·refine zPE cok ok R₁ d₁ h fun mid h => ?_
    refine zAS (fun a e => nomatch e) hns (ihVs ih ok hd hu h R₁ ?_)
    intro b st₂ m2 us s₂ h R₂ x₂ d₂
    exact zPG cok ok hu R₂ (Den.mono d₁) d₂ h ((T.later (more := m1) x₁).later (more := m2) x₂).v
  ·rename_i x xp
   conv at h => whnf
   split at h
   ·exact h.elim
   rename_i hns
   refine Call_ (ihV ih ok hd hu h R ?_)
   intro fv st₁ m1 u s₁ h R₁ x₁ d₁
   cases fv <;> first | exact h.elim | skip
   obtain ⟨rfl, _⟩ := d₁
   cases hf : zNz u with
   | some fa =>
    obtain rfl := zKJ hf
    refine zBe (K := C.K) hns (ihVs ih ok hd hu h R₁ ?_)
    intro b st₂ m2 us s₂ h R₂ x₂ d₂
    exact ⟨⟨zFL ok R₂, zFs cok h⟩, zEz ih cok ok hd hu R₂ d₂ h ((T.later (more := m1) x₁).later (more := m2) x₂)⟩
   | none =>
    refine zAS (zKK hf) hns (ihVs ih ok hd hu h R₁ ?_)
    intro b st₂ m2 us s₂ h R₂ x₂ d₂
    rw [hf] at h
    exact zPF cok ok hu R₂ d₂ h ((T.later (more := m1) x₁).later (more := m2) x₂).v
theorem zDq {e : Expr} (ih : zBE w C n) (ok : FmOk C F) (hd : F.A.depth + (n + 1) < recursionLimit) (hu : F.A.units + 8 * (n + 1) < cLine)
  (h : ev C n F.sc.names (.ex e) st (onV fun x st₁ => zCV st₁ x fun c => k (.b c) st₁)) (R : Rep w F ads st s.heap) (T : Then w F ads s k Q)
  (he : PySem.isTrue e F.env (eval e F.env) = (do let v ← eval e F.env; standAt e.pos; holding [v] (truthy v))) : Goal w F (.tr e) Q E s := by
 refine isTrue_plain (ihV ih ok hd hu h R ?_) he
 intro a st₁ m1 u s₁ h R₁ x₁ d₁
 exact zCa R₁ d₁ h fun c t hc => T.of (r := .b c) (c := .b c) hc R₁ (x₁.trans (zAa s₁ t)) rfl
theorem zNY {e : Expr} (ih : zBE w C n) (ok : FmOk C F) (hd : F.A.depth + (n + 1) < recursionLimit) (hu : F.A.units + 8 * (n + 1) < cLine) (h : ev C (n + 1) F.sc.names (.tr e) st k) (R : Rep w F ads st s.heap) (T : Then w F ads s k Q) : Goal w F (.tr e) Q E s := by
 cases e with
 | BoolOp op vs p =>
  conv at h => whnf
  split at h
  ·split at h
   ·exact isTrue_and_nil (T.same (r := .b true) (c := .b true) h R (Nx.refl s) rfl)
   ·exact isTrue_or_nil (T.same (r := .b false) (c := .b false) h R (Nx.refl s) rfl)
  ·rename_i e₁ rest
   split at h
   ·refine isTrue_and (ihB ih ok hd hu h R ?_)
    intro a st₁ m1 c' s₁ h R₁ x₁ d₁
    cases d₁
    have z := zBO h
    try dsimp only
    split
    ·rename_i hct
     exact ih F E (.tr (.BoolOp .And rest p)) st₁ k (wa ads m1) s₁ Q ok (ltD hd) (ltU hu) (z.1 hct) R₁ (T.later x₁)
    ·rename_i hct
     exact T.of (r := .b false) (c := .b false) (z.2 (by simpa using hct)) R₁ x₁ rfl
   ·refine isTrue_or (ihB ih ok hd hu h R ?_)
    intro a st₁ m1 c' s₁ h R₁ x₁ d₁
    cases d₁
    have z := zBO h
    try dsimp only
    split
    ·rename_i hct
     exact T.of (r := .b true) (c := .b true) (z.1 hct) R₁ x₁ rfl
    ·rename_i hct
     exact ih F E (.tr (.BoolOp .Or rest p)) st₁ k (wa ads m1) s₁ Q ok (ltD hd) (ltU hu) (z.2 (by simpa using hct)) R₁ (T.later x₁)
 | UnaryOp op x p =>
  cases op <;> first | exact False.elim h | skip
  refine isTrue_not (ihB ih ok hd hu h R ?_)
  intro a st₁ m1 c' s₁ h R₁ x₁ d₁
  cases d₁; exact T.of (r := .b _) (c := .b _) h R₁ x₁ rfl
 | Compare l ops rs p =>
  obtain ⟨op, rfl, h⟩ := zBk h
  obtain ⟨r, rfl, h⟩ := zBk h
  obtain ⟨hb, h⟩ := zCu h
  refine wpAny_isTrue_Compare1 (ihV ih ok hd hu h R ?_) hb
  intro xv st₁ m1 a s₁ h R₁ x₁ d₁
  refine ihV ih ok hd hu h R₁ ?_
  intro yv st₂ m2 b s₂ h R₂ x₂ d₂
  exact zFr ok hu R₂ (Den.mono d₁) d₂ h fun z t hk => wpAny_truthy_bool ((T.later (more := m1) x₁).of (r := .b z) (c := .b z) hk R₂ (x₂.trans (zAa s₂ t)) rfl)
 | Name =>
  exact zDq ih ok hd hu h R T rfl
 | Attribute =>
  exact zDq ih ok hd hu h R T rfl
 | Call =>
  exact zDq ih ok hd hu h R T rfl
 | Constant =>
  exact zDq ih ok hd hu h R T rfl
 | _ => exact False.elim h
set_option backward.match.sparseCases true
theorem zLR {l : List Stmt} (ih : zBE w C n) (ok : FmOk C F) (hd : F.A.depth + (n + 1) < recursionLimit) (hu : F.A.units + 8 * (n + 1) < cLine) (h : ev C (n + 1) F.sc.names (.sts l) st k) (R : Rep w F ads st s.heap) (T : Then w F ads s k Q) : Goal w F (.sts l) Q E s := by
 conv at h => whnf
 split at h
 ·exact wpAny_execs_nil (T.same (r := .next) (c := .fl .next) h R (Nx.refl s) trivial)
 ·rename_i x rest
  refine wpAny_execs_cons (ih F E (.st x) st _ ads s (fun c s' => match c with
   | .fl f => match f with
    | .next => wpAny (model prog w) F.A (execs rest F.env) (fun f s' => Q (.fl f) s') E s'
    | f => Q (.fl f) s'
   | _ => False) ok (ltD hd) (ltU hu) h R ?_)
  intro r st₁ m1 c s₁ h R₁ x₁ d₁
  cases r <;> (try exact h.elim) <;> cases c <;> try exact d₁.elim
  all_goals rename_i f
  ·cases f <;> try exact d₁.elim
   exact ih F E (.sts rest) st₁ k (wa ads m1) s₁ Q ok (ltD hd) (ltU hu) h R₁ (T.later x₁)
  ·cases f <;> try exact d₁.elim
   exact T.of (r := .brk) h R₁ x₁ d₁
  ·cases f <;> try exact d₁.elim
   exact T.of (r := .cont) h R₁ x₁ d₁
  ·cases f <;> try exact d₁.elim
   exact T.of (r := .ret _) h R₁ x₁ d₁
set_option backward.match.sparseCases false
theorem zBp {v : Expr} {t : Option Expr} {l : Nat} {env : Env} (h : zAl v = true) : swapsWith v t l env = pure false := by
 cases v <;> first | rfl | cases h
theorem zCF {e : Expr} {env : Env} (h : zCs e = true) (x : Value) : foldedSetIterable e env x = pure x := by
 cases e <;> first | rfl | cases h
theorem zCf {elt : Expr} {gens : List Comprehension} {sc : Scope} {p : Pos} {use : Option (Value → Sem Unit)} {k : SV → St → Prop} {Q : Value → Shared → Prop} (ih : zBE w C n) (ok : FmOk C F) (hd : F.A.depth + (n + 1) < recursionLimit) (hu : F.A.units + 8 * (n + 1) < cLine)
  (h : zNA (ev C n) F.sc.names elt gens sc st k) (R : Rep w F ads st s.heap)
  (hfin : ∀ (m1 z : Wd) (st' : St) (d : PyData) (a Cc : Addr) (s' : Shared), k (.dat d) st' → Nx F s s' → (∃ m, s'.heap.Ns Cc m) → F.L ≠ Cc → Rep w F (wa (wa ads m1) z) st' (hideAll s'.heap [Cc]) → Den F.B (wa (wa ads m1) z) (.dat d) (.ref a) →
   compPost (model prog w) F.A E use Q (.ref a) Cc (.ok .next) s') :
  wpAny (model prog w) F.A (comprehension (.ListComp elt gens sc p) sc F.env (firstIterPos gens p) (newList []) (firstAsync gens) (firstIter gens F.env) use) Q E s := by
 obtain ⟨g, rfl, h⟩ := zBk h
 obtain ⟨ha, h⟩ := zAp h
 obtain ⟨hsc, h⟩ := zAp h
 obtain ⟨hpi, h⟩ := zAp h
 obtain ⟨tgt, iter, ifs, asy⟩ := g
 obtain rfl : asy = 0 := zSZ ha
 show wpAny (model prog w) F.A (comprehension (.ListComp elt [⟨tgt, iter, ifs, 0⟩] sc p) sc F.env iter.pos (newList []) false (eval iter F.env) use) Q E s
 have elok : ∀ F' : Fm, FmOk C F' → F'.A = F.A → F'.sc.names = zAu sc.names → EvOk w F' elt (fun st k => ev C n (zAu sc.names) (.ex elt) st k) := fun F' ok' eA eN E' st' k' ads' s' Q' hev R' T' =>
  ih F' E' (.ex elt) st' k' ads' s' Q' ok' (by rw [eA]; lia) (by rw [eA]; lia) (by rw [eN]; exact hev) R' T'
 refine zKm (ksrc := zRk (ev C n) elt tgt ifs sc k) ok hsc (zCF hpi) (fun Q' T' => ih F E (.ex iter) st _ ads s Q' ok (ltD hd) (ltU hu) h R T') (fun v st₁ hv => ?_) hfin
 ·unfold zRk at hv
  obtain ⟨all, slot, hs, hv⟩ := zFb hv
  rcases zKe hv with ⟨rfl, hv⟩ | ⟨c, rfl, hv⟩
  ·exact ⟨all, slot, _, none, hs, hv, fun F' ok' eA eN => ⟨elok F' ok' eA eN, .none⟩⟩
  ·refine ⟨all, slot, _, some _, hs, hv, fun F' ok' eA eN => ⟨elok F' ok' eA eN, .one fun E' st' k' ads' s' Q' hev R' T' => ?_⟩⟩
   exact ih F' E' (.tr c) st' k' ads' s' Q' ok' (by rw [eA]; lia) (by rw [eA]; lia) (by rw [eN]; exact hev) R' T'
theorem zFS {a : Expr} {b : List Comprehension} {c : Scope} {p xp : Pos} {x : Str} {l : Nat} {env : Env} : swapsWith (.ListComp a b c p) (some (.Name x xp)) l env = pure (env.blockKind == .function && env.kindOf x == some .local && xp.line == p.line && !(c.names.any fun (n, k) => n == x && (k == .local || k == .cell))) := rfl
theorem zFC {a : Expr} {b : List Comprehension} {c : Scope} {p xp pos : Pos} {x : Str} {k : SV → St → Prop} {Q : CR → Shared → Prop} (ih : zBE w C n) (ok : FmOk C F) (hd : F.A.depth + (n + 1) < recursionLimit) (hu : F.A.units + 8 * (n + 1) < cLine)
  (hk : F.sc.names.lookup x = some .local ∨ F.sc.names.lookup x = some .cell) (h : zNA (ev C n) F.sc.names a b c st fun y st₁ => stT F.sc.names x y st₁ fun st₂ => k .none st₂) (R : Rep w F ads st s.heap)
  (hQ : ∀ st' more s', k .none st' → Rep w F (wa ads more) st' s'.heap → Nx F s s' → Q (.fl .next) s') : wpAny (model prog w) F.A (exec (.Assign [.Name x xp] (.ListComp a b c p) pos) F.env) (fun f s' => Q (.fl f) s') E s := by
 cases hb : (F.env.blockKind == .function && F.env.kindOf x == some .local && xp.line == p.line && !(c.names.any fun (n, k) => n == x && (k == .local || k == .cell))) with
 | false =>
  refine wpAny_Assign_Name ?_ (by rw [zFS, hb])
  rw [eval_ListComp]
  refine zCf (use := none) ih ok hd hu h R fun m1 z st' d y Cc s' hk' x' hC hne R' dx => ?_
  obtain ⟨mC, hmC⟩ := hC
  refine ⟨mC, hmC, fun h' hs' => ?_⟩
  refine zBG (s := { s' with heap := h' }) ok (zFX R' hs') dx hk' fun st'' s'' hk'' R'' x'' => ?_
  exact hQ st'' (wa m1 z) s'' hk'' (by rw [← Wd.append_assoc]; exact R'') ((x'.trans (Nx.of_gens rfl rfl rfl : Nx F s' { s' with heap := h' })).trans x'')
 | true =>
  have hl : F.sc.names.lookup x = some .local := by
   simp only [Bool.and_eq_true] at hb
   have := hb.1.1.2
   have h2 : F.env.kindOf x = some .local := by simpa using this
   exact h2
  rw [exec_Assign_Name_used _ _ _ _ (by rw [zFS, hb])]
  refine wpAny_bind (wpAny_standAt (wpAny_bind ?_))
  show wpAny _ F.A (do let _ ← comprehension (.ListComp a b c p) c F.env (firstIterPos b p) (newList []) (firstAsync b) (firstIter b F.env) (some (assign (.Name x xp) F.env))) _ _ s
  refine wpAny_bind (wpAny_mono (zCf (use := some (assign (.Name x xp) F.env)) (Q := fun _ s' => Q (.fl .next) s') ih ok hd hu h R fun m1 z st' d y Cc s' hk' x' hC hne R' dx => ?_) (fun _ s' hq => wpAny_pure (wpAny_pure hq)) fun _ _ e => e)
  show wpAny _ F.A (assign (.Name x xp) F.env (.ref y)) _ _ _
  unfold stT at hk'
  rw [zAV, hl] at hk'
  refine wpAny_assign_Name (zGJ ok R' hC hne dx hl fun h₁ t hC₁ fin => ?_)
  obtain ⟨mC, hmC⟩ := hC₁
  refine ⟨mC, hmC, fun h'' hs'' => ?_⟩
  exact hQ _ (wa m1 z) { s' with heap := h'', toks := t } hk' (by rw [← Wd.append_assoc]; exact fin h'' hs'') (x'.trans (Nx.of_gens rfl rfl rfl))
theorem zIS {o i v : SV} {a b u : Value} {k : St → Prop} {Q : Unit → Shared → Prop} (ok : FmOk C F) (R : Rep w F ads st s.heap) (d1 : Den F.B ads o a) (d2 : Den F.B ads i b) (d3 : Den F.B ads v u) (h : zSC st o i v k)
  (hQ : ∀ st' s', k st' → Rep w F ads st' s'.heap → Nx F s s' → Q () s') : wpAny (model prog w) F.A (setItem a b u) Q E s := by
 obtain ⟨j, rfl, h⟩ := zAz h
 rcases zLs h with ⟨fs, hj, h⟩ | ⟨xs, hj, h⟩
 ·obtain ⟨x, rfl, h⟩ := zAi h
  obtain ⟨⟨t, rfl⟩, _⟩ := d2
  exact zRh R d1 hj d3 h.1 fun h' t' R' => hQ _ _ h.2 R' (Nx.mk' s h' t')
 ·obtain ⟨z, rfl, h⟩ := zCP h
  obtain ⟨t, rfl⟩ := d2
  exact zKI R d1 hj h.1 h.2.1 h.2.2.1 d3 fun h' R' => hQ _ _ h.2.2.2 R' (Nx.of_gens rfl rfl rfl)
theorem zDX {es : List Expr} {q : Nat} {p : Pos} {v : Expr} {env : Env} (h : zDw v = true) : swappedStores [.Tuple es q p] v env = pure none := by
 cases v <;> first | rfl | cases h
theorem zIK {x z : Str} {p q : Pos} {v : Expr} {env : Env} : swappedStores [.Name x p, .Name z q] v env = pure none := rfl
theorem zFV {es : List Expr} {q : Nat} {p : Pos} {v : Expr} {l : Nat} {env : Env} (h : zAl v = true) : swapsWithSole [.Tuple es q p] v l env = pure false := by
 cases v <;> first | rfl | cases h
theorem zNZ {x : Stmt} (ih : zBE w C n) (cok : CfOk w C) (ok : FmOk C F) (hd : F.A.depth + (n + 1) < recursionLimit) (hu : F.A.units + 8 * (n + 1) < cLine) (h : ev C (n + 1) F.sc.names (.st x) st k) (R : Rep w F ads st s.heap) (T : Then w F ads s k Q) : Goal w F (.st x) Q E s := by
 cases x with
 | Assign tgs v pos =>
  cases tgs with
  | nil => exact False.elim h
  | cons t0 r0 =>
  cases r0 with
  | nil =>
   cases t0 with
   | Name x xp =>
    rcases zBs h with ⟨hk, h⟩ | ⟨hk, h⟩
    ·have hk0 := hk
     rw [zAV] at hk
     split at h
     ·rename_i hp
      refine wpAny_Assign_Name (ihV ih ok hd hu h R ?_) (zBp hp)
      intro a st₁ m1 u s₁ h R₁ x₁ d₁
      exact zEP ok R₁ d₁ hk fun h' t R' => T.of (r := .next) (c := .fl .next) h R' (x₁.trans (Nx.mk' s₁ h' t)) trivial
     ·cases v <;> first | exact False.elim h | skip
      refine zFC ih ok hd hu (.inl hk) (k := fun _ st' => k .next st') ?_ R fun st' more s' hk' R' x' => T .next st' more (.fl .next) s' hk' R' x' trivial
      unfold stT
      rw [hk0]
      exact h
    ·rw [zAV] at hk
     split at h
     ·rename_i hp
      refine wpAny_Assign_Name (ihV ih ok hd hu h R ?_) (zBp hp)
      intro a st₁ m1 u s₁ h R₁ x₁ d₁
      exact zBG ok R₁ d₁ h fun st' s' hk' R' x' => T.of (r := .next) (c := .fl .next) hk' R' (x₁.trans x') trivial
     ·cases v <;> first | exact False.elim h | skip
      exact zFC ih ok hd hu (.inr hk) (k := fun _ st' => k .next st') h R fun st' more s' hk' R' x' => T .next st' more (.fl .next) s' hk' R' x' trivial
   | Tuple es q p =>
    conv at h => whnf
    split at h
    ·rename_i hp
     split at h
     ·rename_i hnt
      refine PyProof.Rows.Assign_Tuple (ihV ih ok hd hu h R ?_) (zFV hp) (zDX hnt)
      intro a st₁ m1 u s₁ h R₁ x₁ d₁
      exact zCS ok R₁ d₁ h fun st' s' hk' R' x' => T.of (r := .next) (c := .fl .next) hk' R' (x₁.trans x') trivial
     ·exact h.elim
    ·exact h.elim
   | Subscript o i ip =>
    conv at h => whnf
    split at h
    ·rename_i hp
     refine wpAny_Assign_Subscript (ihV ih ok hd hu h R ?_) (zBp hp)
     intro a st₁ m1 u s₁ h R₁ x₁ d₁
     refine ihV ih ok hd hu h R₁ ?_
     intro b st₂ m2 ov s₂ h R₂ x₂ d₂
     refine ihV ih ok hd hu h R₂ ?_
     intro b st₃ m3 iv s₃ h R₃ x₃ d₃
     exact zIS ok R₃ (Den.mono d₂) d₃ (Den.mono (Den.mono (zIx d₁))) h fun st' s' hk' R' x' => ((T.later (more := m1) x₁).later (more := m2) x₂).of (r := .next) (c := .fl .next) hk' R' (x₃.trans x') trivial
    ·exact h.elim
   | Attribute o a ap =>
    conv at h => whnf
    split at h
    ·rename_i hp
     refine plainObj_wpAny_Assign_Attribute (ihV ih ok hd hu h R ?_) (zBp hp)
     intro b st₁ m1 u s₁ h R₁ x₁ d₁
     refine ihV ih ok hd hu h R₁ ?_
     intro b st₂ m2 ov s₂ h R₂ x₂ d₂
     exact zCk cok ok R₂ d₂ (zIx (Den.mono d₁)) h fun st' h' t hk R' => (T.later (more := m1) x₁).of (r := .next) (c := .fl .next) hk R' (x₂.trans (Nx.mk' s₂ h' t)) trivial
    ·exact h.elim
   | _ => exact False.elim h
  | cons t1 r1 =>
   cases r1 with
   | cons => exact False.elim h
   | nil =>
   cases t0 with
   | Name x xp =>
    cases t1 with
    | Name z zp =>
     conv at h => whnf
     split at h
     ·rename_i hp
      split at h
      ·rename_i hnt
       refine wpAny_Assign_two (ihV ih ok hd hu h R ?_) rfl zIK
       intro a st₁ m1 u s₁ h R₁ x₁ d₁
       refine wpAny_assign_Name (zBG ok R₁ d₁ h fun st₂ s₂ h₂ R₂ x₂ => ?_)
       refine wpAny_assign_Name (zBG ok R₂ d₁ h₂ fun st₃ s₃ h₃ R₃ x₃ => ?_)
       exact T.of (r := .next) (c := .fl .next) h₃ R₃ ((x₁.trans x₂).trans x₃) trivial
      ·exact h.elim
     ·exact h.elim
    | _ => exact False.elim h
   | _ => exact False.elim h
 | AugAssign tg op v pos =>
  cases op with
  | Add =>
   cases tg with
   | Name x xp =>
    rcases zBs h with ⟨hk, h⟩ | ⟨_, h⟩
    rotate_left
    ·exact h.elim
    rw [zAV] at hk
    obtain ⟨old, ho, h⟩ := zAK h
    obtain ⟨m, news, lw, u, X, a, b⟩ := zCo R ho
    refine wpAny_AugAssign_Name (ldnE ok X.fr hk a ?_)
    refine ihV ih ok hd hu h R ?_
    intro b' st₁ m1 y s₁ h R₁ x₁ d₁
    exact zFj (Den.mono b) d₁ h fun z v' t hk' d' => zEP (s := { s₁ with toks := t }) ok R₁ d' hk fun h' t' R' => T.of (r := .next) (c := .fl .next) hk' R' (x₁.trans (Nx.mk' s₁ h' t')) trivial
   | Attribute o a ap =>
    conv at h => whnf
    refine wpAny_AugAssign_AttributeAny (ihV ih ok hd hu h R ?_)
    intro b st₁ m1 ov s₁ h R₁ x₁ d₁
    refine zFv cok ok R₁ d₁ h fun old u t h d' => ?_
    refine ihV ih ok hd hu h R₁ ?_
    intro b st₂ m2 y s₂ h R₂ x₂ d₂
    refine zFj (Den.mono d') d₂ h fun z v' t' hk' dz => ?_
    exact zCk (s := { s₂ with toks := t' }) cok ok R₂ (Den.mono d₁) dz hk' fun st' h' t'' hk R' => (T.later (more := m1) (x₁.trans (zAa s₁ t))).of (r := .next) (c := .fl .next) hk R' (x₂.trans (Nx.mk' s₂ h' t'')) trivial
   | _ => exact False.elim h
  | _ => exact False.elim h
 | If t b e p =>
  conv at h => whnf
  refine wpAny_If (ihB ih ok hd hu h R ?_)
  intro a st₁ m1 c' s₁ h R₁ x₁ d₁
  cases d₁
  have z := zBO h
  try dsimp only
  split
  ·rename_i hct
   exact ih F E (.sts b) st₁ k (wa ads m1) s₁ Q ok (ltD hd) (ltU hu) (z.1 hct) R₁ (T.later x₁)
  ·rename_i hct
   exact ih F E (.sts e) st₁ k (wa ads m1) s₁ Q ok (ltD hd) (ltU hu) (z.2 (by simpa using hct)) R₁ (T.later x₁)
 | Return v p =>
  refine zDz cok ok hd hu h R T ?_
  clear h
  intro h
  split at h
  ·rename_i e
   refine wpAny_Return_some (ihV ih ok hd hu h R ?_)
   intro a st₁ m1 u s₁ h R₁ x₁ d₁
   exact T.of (r := .ret _) (c := .fl (.ret u)) h R₁ x₁ d₁
  ·exact wpAny_Return_none (T.same (r := .ret .none) (c := .fl (.ret .none)) h R (Nx.refl s) rfl)
 | Break p =>
  conv at h => whnf
  exact wpAny_Break (T.same (r := .brk) (c := .fl .brk) h R (Nx.refl s) trivial)
 | Continue p =>
  conv at h => whnf
  exact wpAny_Continue (T.same (r := .cont) (c := .fl .cont) h R (Nx.refl s) trivial)
 | Pass p =>
  conv at h => whnf
  exact wpAny_Pass (T.same (r := .next) (c := .fl .next) h R (Nx.refl s) trivial)
 | For ta it bo oe p =>
  refine zDz cok ok hd hu h R T ?_
  clear h
  intro h
  cases oe <;> first | exact False.elim h | skip
  replace h : (match zCs it with
   | true => ev C n F.sc.names (.ex it) st _
   | false => False) := h
  split at h
  ·rename_i hpi
   refine wpAny_For (ihV ih ok hd hu h R ?_) (zCF hpi)
   intro r st₁ m1 u s₁ h R₁ x₁ d₁
   obtain ⟨all, slot, hs, h⟩ := zFb h
   refine zDP ok R₁ d₁ hs fun s₂ R₂ x₂ => ?_
   refine zFm (Q := Q) (k := k) ok (fun E' st' k' ads' s' Q' hev R' T' => ih F E' (.sts _) st' k' ads' s' Q' ok (ltD hd) (ltU hu) hev R' T') (fun f s' hq => hq) all 0 _ _ s₂ h rfl R₂ ?_ (((T.later (more := m1) x₁)).later x₂)
   exact ⟨(s₁.heap.objs.size, 0), by rw [zBg R₁]; exact zBz _ _ _, rfl⟩
  ·exact h.elim
 | Try ta tb tc td p =>
  exact zDz cok ok hd hu h R T fun h => h.elim
 | While wt wb we p =>
  refine zDz cok ok hd hu h R T ?_
  clear h
  intro h
  cases we <;> first | exact False.elim h | skip
  exact wpAny_While (ih F E (.wl _ _) st k ads s Q ok (ltD hd) (ltU hu) h R T)
 | Expr e p =>
  cases e <;> first | exact False.elim h | skip
  refine wpAny_Expr_any (ihV ih ok hd hu h R ?_) (by show (F.sc.kind == .module && _) = false; rw [ok.kind]; rfl) rfl
  intro a st₁ m1 u s₁ h R₁ x₁ d₁
  exact T.of (r := .next) (c := .fl .next) h R₁ x₁ trivial
 | _ => exact False.elim h
theorem zHq {t : Expr} {b : List Stmt} {env : Env} {A : Around} {R : Result → Shared → Prop}
  (turn : wpAny (model prog w) A (PySem.isTrue t env (eval t env)) (fun c s₂ =>
    if c then wpAny (model prog w) A (execs b env) (fun f s₃ => match f with
      | .next | .cont => codeAny (model prog w) A (.whileLoop t b [] env) R s₃
      | .brk => R (.ok .next) s₃
      | .ret v => R (.ok (.ret v)) s₃) (notedBy (model prog w) A env fun e s' => R (.error e) s') s₂
    else R (.ok .next) s₂)
    (notedBy (model prog w) A env fun e s' => R (.error e) s') s) : codeAny (model prog w) A (.whileLoop t b [] env) R s := by
 refine codeAny_of_tree ?_
 show wpAny _ A ((whileTurn t b [] env).onRaise (fun x => do noteFrame x env; theTreesLotGoes x)) _ _ s
 refine wpAny_noted ?_
 simp only [whileTurn]
 refine wpAny_bind (wpAny_mono turn (fun c s₂ h₂ => ?_) fun _ _ h' => h')
 cases c with
 | false =>
  simp only [Bool.false_eq_true, if_false] at h₂ ⊢
  exact wpAny_bind (wpAny_execs_nil (wpAny_pure h₂))
 | true =>
  simp only [if_true] at h₂ ⊢
  refine wpAny_bind (wpAny_mono h₂ (fun f s₃ h₃ => ?_) fun _ _ h' => h')
  cases f with
  | next => exact wpAny_pure ⟨rfl, h₃⟩
  | cont => exact wpAny_pure ⟨rfl, h₃⟩
  | brk => exact wpAny_pure h₃
  | ret v => exact wpAny_pure h₃
theorem zNX {t : Expr} {b : List Stmt} (ih : zBE w C n) (ok : FmOk C F) (hd : F.A.depth + (n + 1) < recursionLimit) (hu : F.A.units + 8 * (n + 1) < cLine) (h : ev C (n + 1) F.sc.names (.wl t b) st k) (R : Rep w F ads st s.heap) (T : Then w F ads s k Q) : Goal w F (.wl t b) Q E s := by
 conv at h => whnf
 refine zHq (ihB ih ok hd hu h R ?_)
 intro a st₁ m1 c' s₁ h R₁ x₁ d₁
 cases d₁
 have z := zBO h
 try dsimp only
 split
 ·rename_i hct
  refine ih F _ (.sts b) st₁ _ (wa ads m1) s₁ (fun c s' => match c with
   | .fl f => match f with
    | .next | .cont => codeAny (model prog w) F.A (.whileLoop t b [] F.env) _ s'
    | .brk => Q (.fl .next) s'
    | .ret v => Q (.fl (.ret v)) s'
   | _ => False) ok (ltD hd) (ltU hu) (z.1 hct) R₁ ?_
  intro r st₂ m2 c s₂ h R₂ x₂ d₂
  have T₂ := (T.later (more := m1) x₁).later (more := m2) x₂
  cases r <;> (try exact h.elim) <;> cases c <;> try exact d₂.elim
  all_goals rename_i f
  ·cases f <;> try exact d₂.elim
   exact ih F E (.wl t b) st₂ k _ s₂ Q ok (ltD hd) (ltU hu) h R₂ T₂
  ·cases f <;> try exact d₂.elim
   exact T₂.same (r := .next) (c := .fl .next) h R₂ (Nx.refl _) trivial
  ·cases f <;> try exact d₂.elim
   exact ih F E (.wl t b) st₂ k _ s₂ Q ok (ltD hd) (ltU hu) h R₂ T₂
  ·cases f <;> try exact d₂.elim
   exact T₂.same (r := .ret _) h R₂ (Nx.refl _) d₂
 ·rename_i hct
  exact T.of (r := .next) (c := .fl .next) (z.2 (by simpa using hct)) R₁ x₁ trivial
theorem zIP {t a b : Expr} {p : Pos} (ih : zBE w C n) (ok : FmOk C F) (hd : F.A.depth + (n + 1) < recursionLimit) (hu : F.A.units + 8 * (n + 1) < cLine) (h : ev C (n + 1) F.sc.names (.ex (.IfExp t a b p)) st k) (R : Rep w F ads st s.heap) (T : Then w F ads s k Q) : Goal w F (.ex (.IfExp t a b p)) Q E s := by
 conv at h => whnf
 refine wpAny_IfExp (ihB ih ok hd hu h R ?_)
 intro r st₁ m1 c' s₁ h R₁ x₁ d₁
 cases d₁
 have z := zBO h
 try dsimp only
 split
 ·rename_i hct
  exact ih F E (.ex a) st₁ k (wa ads m1) s₁ Q ok (ltD hd) (ltU hu) (z.1 hct) R₁ (T.later x₁)
 ·rename_i hct
  exact ih F E (.ex b) st₁ k (wa ads m1) s₁ Q ok (ltD hd) (ltU hu) (z.2 (by simpa using hct)) R₁ (T.later x₁)
theorem zIO {es : List Expr} {q : Nat} {p : Pos} (ih : zBE w C n) (ok : FmOk C F) (hd : F.A.depth + (n + 1) < recursionLimit) (hu : F.A.units + 8 * (n + 1) < cLine) (h : ev C (n + 1) F.sc.names (.ex (.Tuple es q p)) st k) (R : Rep w F ads st s.heap) (T : Then w F ads s k Q) : Goal w F (.ex (.Tuple es q p)) Q E s := by
 conv at h => whnf
 split at h
 ·exact h.elim
 ·refine wpAny_Tuple_spliced (ihVs ih ok hd hu h R ?_)
  intro b st₁ m1 us s₁ h R₁ x₁ d₁
  split at h
  ·rename_i hb
   have hb' := Nat.le_of_ble_eq_true hb
   refine ⟨by rw [← d₁.length, sizeLine_eq]; lia, ?_⟩
   refine (T.later (more := m1) x₁).of (more := .one s₁.heap.objs.size 0) (r := .v (.obj st₁.led.length)) (c := .v (.ref s₁.heap.objs.size)) h (zAr rfl R₁ (.tup (n := 0) d₁.mono)) (Nx.of_gens rfl rfl rfl) ?_
   exact ⟨(s₁.heap.objs.size, 0), by rw [zBg R₁]; exact zBz _ _ _, rfl⟩
  ·exact h.elim
theorem zJv {es : List Expr} {p : Pos} (ih : zBE w C n) (ok : FmOk C F) (hd : F.A.depth + (n + 1) < recursionLimit) (hu : F.A.units + 8 * (n + 1) < cLine) (h : ev C (n + 1) F.sc.names (.ex (.List es p)) st k) (R : Rep w F ads st s.heap) (T : Then w F ads s k Q) : Goal w F (.ex (.List es p)) Q E s := by
 conv at h => whnf
 split at h
 ·exact h.elim
 ·refine wpAny_List_spliced (ihVs ih ok hd hu h R ?_)
  intro b st₁ m1 us s₁ h R₁ x₁ d₁
  split at h
  ·rename_i hb
   have hb' := Nat.le_of_ble_eq_true hb
   refine ⟨by rw [← d₁.length, sizeLine_eq]; lia, ?_⟩
   refine (T.later (more := m1) x₁).of (more := .one s₁.heap.objs.size 0) (r := .v (.obj st₁.led.length)) (c := .v (.ref s₁.heap.objs.size)) h (zAr rfl R₁ (.list (n := 0) d₁.mono)) (Nx.of_gens rfl rfl rfl) ?_
   exact ⟨(s₁.heap.objs.size, 0), by rw [zBg R₁]; exact zBz _ _ _, rfl⟩
  ·exact h.elim
theorem zNa {a : Expr} {b : List Comprehension} {c : Scope} {p : Pos} (ih : zBE w C n) (cok : CfOk w C) (ok : FmOk C F) (hd : F.A.depth + (n + 1) < recursionLimit) (hu : F.A.units + 8 * (n + 1) < cLine) (h : ev C (n + 1) F.sc.names (.ex (.ListComp a b c p)) st k) (R : Rep w F ads st s.heap) (T : Then w F ads s k Q) : Goal w F (.ex (.ListComp a b c p)) Q E s := by
 refine zJa cok ok hd hu h R T ?_
 clear h
 intro h
 show wpAny (model prog w) F.A (eval (.ListComp a b c p) F.env) (fun v s' => Q (.v v) s') E s
 rw [eval_ListComp]
 refine zCf (use := none) ih ok hd hu h R fun m1 z st' d x Cc s' hk x' hC hne R' dx => ?_
 obtain ⟨mC, hmC⟩ := hC
 refine ⟨mC, hmC, fun h' hs' => ?_⟩
 refine T (.v (.dat d)) st' (wa m1 z) (.v (.ref x)) _ hk ?_ (x'.trans (Nx.of_gens rfl rfl rfl)) ?_
 ·rw [← Wd.append_assoc]; exact zFX R' hs'
 ·rw [← Wd.append_assoc]; exact dx
theorem zJw {ks : List (Option Expr)} {vs : List Expr} {p : Pos} (h : ev C (n + 1) F.sc.names (.ex (.Dict ks vs p)) st k) (R : Rep w F ads st s.heap) (T : Then w F ads s k Q) : Goal w F (.ex (.Dict ks vs p)) Q E s := by
 cases ks <;> first | exact False.elim h | skip
 cases vs <;> first | exact False.elim h | skip
 exact zRi R fun s' R' x' => T (.v (.obj st.led.length)) _ (.one s.heap.objs.size 0) (.v (.ref s.heap.objs.size)) s' h R' x' ⟨(s.heap.objs.size, 0), by rw [zBg R]; exact zBz _ _ _, rfl⟩
theorem zEE {o : Expr} {x : Str} {t : Tok} (r : Value) : letTemporaryGo o (.str x t) r = pure () := by cases o <;> rfl
theorem zNj {o : Expr} {lo hi : Option Expr} {q : Pos} {x : SV} {v vl vu : Value} {l u : Option Int} {k : SV → St → Prop} {Q : Value → Shared → Prop} (ok : FmOk C F) (R : Rep w F ads st s.heap) (d : Den F.B ads x v) (pl : PartV l vl) (pu : PartV u vu)
  (h : slT st x l u k) (T : ThenV w F ads s k Q) :
  wpAny (model prog w) F.A (subscriptTail o (.Slice lo hi none q) v (.ref s.heap.objs.size)) Q E { s with heap := s.heap.push { cls := .type "slice", data := .fields #[vl, vu, .none] } } := by
 cases x <;> try exact h.elim
 rotate_left
 ·rename_i dd
  cases dd <;> try exact h.elim
  rename_i ds
  exact zLV ok R d pl pu fun more r s' R' x' d' => T _ st more r s' h R' x' d'
 rename_i x
 obtain ⟨⟨t, rfl⟩, hl⟩ := d
 obtain ⟨m, news, lw, X⟩ := R
 have fin : ∀ z h' t' kk, z = Txt.slice x l u → Fr F.h₀ F.L h' m → News F.h₀ F.L h' (news ++ (ads.fz ++ lw)) → z.length ≤ x.length → Q (.str z t') { s with heap := h', toks := kk } := by
  intro z h' t' kk e F' N' hz
  subst e
  exact T.same h ⟨m, news, lw, F', N', X.loc, X.led, X.nd, X.ups⟩ (Nx.mk' s h' kk) ⟨⟨_, rfl⟩, Nat.le_trans hz hl⟩
 cases l <;> cases u
 ·cases pl; cases pu
  exact slice_strN_nn_len X.fr X.nw (fun h' t' kk F' N' hz => fin _ h' t' kk rfl F' N' hz) (by with_unfolding_all rfl) zEE hl
 ·cases pl; obtain ⟨_, rfl⟩ := pu
  exact slice_strN_ns_len X.fr X.nw (fun h' t' kk F' N' hz => fin _ h' t' kk rfl F' N' hz) (by with_unfolding_all rfl) zEE hl
 ·obtain ⟨_, rfl⟩ := pl; cases pu
  exact slice_strN_sn_len X.fr X.nw (fun h' t' kk F' N' hz => fin _ h' t' kk rfl F' N' hz) (by with_unfolding_all rfl) zEE hl
 ·obtain ⟨_, rfl⟩ := pl; obtain ⟨_, rfl⟩ := pu
  exact slice_strN_ss_len X.fr X.nw (fun h' t' kk F' N' hz => fin _ h' t' kk rfl F' N' hz) (by with_unfolding_all rfl) zEE hl
theorem zFa {e : Option Expr} {k : Option Int → St → Prop} {Q : Value → Shared → Prop} (ih : zBE w C n) (ok : FmOk C F) (hd : F.A.depth + (n + 1) < recursionLimit) (hu : F.A.units + 8 * (n + 1) < cLine) (h : zQq C n F.sc.names e st (ev C n) k) (R : Rep w F ads st s.heap)
  (hQ : ∀ l st' more v s', k l st' → Rep w F (wa ads more) st' s'.heap → Nx F s s' → PartV l v → Q v s') : wpAny (model prog w) F.A (evalPart e F.env) Q E s := by
 cases e with
 | none => exact wpAny_evalPart_none (hQ none st .nil .none s h (by rw [Wd.append_nil]; exact R) (Nx.refl s) rfl)
 | some e =>
  have h : ev C n F.sc.names (.ex e) st (onV _) := h
  refine wpAny_evalPart_some (ihV ih ok hd hu h R ?_)
  intro r st₁ m1 v s₁ h R₁ x₁ d₁
  cases r <;> first | exact h.elim | skip
  exact hQ _ st₁ m1 v s₁ h R₁ x₁ d₁
theorem zLN {o i : Expr} {x y : SV} {v u : Value} {k : SV → Prop} {Q : Value → Shared → Prop} (hp : zJQ i = true) (ok : FmOk C F) (R : Rep w F ads st s.heap) (d : Den F.B ads x v) (d' : Den F.B ads y u) (h : subT st x y k)
  (hQ : ∀ z v t, k z → Den F.B ads z v → Q v { s with toks := t }) : wpAny (model prog w) F.A (subscriptTail o i v u) Q E s := by
 cases y <;> first | exact False.elim h | skip
 obtain ⟨t', rfl⟩ := d'
 conv at h => whnf
 split at h
 ·rename_i x hx
  obtain rfl := zFT hx
  obtain ⟨⟨t, rfl⟩, hl⟩ := d
  obtain ⟨h1, h2, h3⟩ := h
  rw [sizeLine_eq] at hl
  exact item_str (fitsSsize_of (N := 9223372036854775808) (by lia) (by lia) (Int.le_refl _)) h1 h2 (fun hz => hQ _ _ _ h3 ⟨⟨_, rfl⟩, Nat.le_trans hz.2 (by rw [sizeLine_eq]; lia)⟩) (by cases i <;> first | rfl | cases hp) zEE
 ·obtain ⟨⟨b, xs⟩, e, h⟩ := zAK h
  obtain ⟨z, hz, hk⟩ := h
  exact zMb (fun l => by cases i <;> first | rfl | cases hp) ok R d e hz fun y dy => hQ z y s.toks hk dy
theorem zLQ {o i : Expr} {p : Pos} (ih : zBE w C n) (ok : FmOk C F) (hd : F.A.depth + (n + 1) < recursionLimit) (hu : F.A.units + 8 * (n + 1) < cLine) (h : ev C (n + 1) F.sc.names (.ex (.Subscript o i p)) st k) (R : Rep w F ads st s.heap) (T : Then w F ads s k Q) : Goal w F (.ex (.Subscript o i p)) Q E s := by
 conv at h => whnf
 split at h
 ·rename_i hp
  refine Subscript_ (ihV ih ok hd hu h R ?_)
  intro a st₁ m1 ov s₁ h R₁ x₁ d₁
  refine ihV ih ok hd hu h R₁ ?_
  intro b st₂ m2 iv s₂ h R₂ x₂ d₂
  exact zLN hp ok R₂ (Den.mono d₁) d₂ h fun z v t hk d => (T.later (more := m1) x₁).of (r := .v z) (c := .v v) hk R₂ (x₂.trans (zAa s₂ t)) d
 ·cases i <;> first | exact False.elim h | skip
  rename_i lo hi stp q _
  cases stp <;> first | exact False.elim h | skip
  refine Subscript_ (ihV ih ok hd hu h R ?_)
  intro a st₁ m1 ov s₁ h R₁ x₁ d₁
  refine wpAny_Slice (zFa ih ok hd hu h R₁ ?_)
  intro l st₂ m2 vl s₂ h R₂ x₂ p₂
  refine zFa ih ok hd hu h R₂ ?_
  intro uu st₃ m3 vu s₃ h R₃ x₃ p₃
  refine wpAny_evalPart_none ?_
  exact zNj ok R₃ (Den.mono (Den.mono d₁)) p₂ p₃ h (((T.later (more := m1) x₁).later (more := m2) x₂).later (more := m3) x₃).v
theorem zIN {op : UnaryOp} {x : Expr} {p : Pos} (ih : zBE w C n) (ok : FmOk C F) (hd : F.A.depth + (n + 1) < recursionLimit) (hu : F.A.units + 8 * (n + 1) < cLine) (h : ev C (n + 1) F.sc.names (.ex (.UnaryOp op x p)) st k) (R : Rep w F ads st s.heap) (T : Then w F ads s k Q) : Goal w F (.ex (.UnaryOp op x p)) Q E s := by
 cases op <;> first | exact False.elim h | skip
 refine wpAny_UnaryOp (ihV ih ok hd hu h R ?_)
 intro r st₁ m1 u s₁ h R₁ x₁ d₁
 cases r <;> first | exact h.elim | skip
 obtain ⟨t, rfl⟩ := d₁
 exact PyProof.Rows.neg_int ((T.later (more := m1) x₁).same (r := .v (.int _)) (c := .v (.int _ _)) h R₁ (zAa s₁ _) ⟨_, rfl⟩)
theorem zBY (cok : CfOk w C) : ∀ n, zBE w C n
 | 0 => fun F E tk st k ads s Q ok hd hu h R T => False.elim h
 | n + 1 => fun F E tk st k ads s Q ok hd hu h R T => by
  have ih := zBY cok n
  cases tk with
  | ex e =>
   cases e with
   | Name x p => exact zJu cok ok h R T
   | Constant c q p => exact zIQ h R T
   | Attribute o a p => exact zJz ih cok ok hd hu h R T
   | BinOp l op r p => exact zLT ih ok hd hu h R T
   | Compare l ops rs p => exact zLS ih ok hd hu h R T
   | BoolOp op vs p => exact zJy ih ok hd hu h R T
   | Call f args kws p => exact zJx ih cok ok hd hu h R T
   | IfExp t a b p => exact zIP ih ok hd hu h R T
   | UnaryOp op x p => exact zIN ih ok hd hu h R T
   | Tuple es q p => exact zIO ih ok hd hu h R T
   | List es p => exact zJv ih ok hd hu h R T
   | ListComp a b c p => exact zNa ih cok ok hd hu h R T
   | Dict a b p => exact zJw h R T
   | Subscript o i p => exact zLQ ih ok hd hu h R T
   | _ => exact False.elim h
  | tr e => exact zNY ih ok hd hu h R T
  | st x => exact zNZ ih cok ok hd hu h R T
  | sts l => exact zLR ih ok hd hu h R T
  | args es p => exact zKA ih ok hd hu h R T
  | wl t b => exact zNX ih ok hd hu h R T
end
noncomputable def zLy : List (Str × NameKind) → Bool
 | [] => true
 | (_, k) :: r => match k with
  | .cell => false
  | _ => zLy r
theorem zAP : ∀ {l : List (Str × NameKind)}, zLy l = true → ∀ x ∈ l, x.2 ≠ .cell
 | (y, k) :: r, h, x, hx => by
  have rest : zLy r = true → x ∈ r → x.2 ≠ .cell := fun h hx => zAP h x hx
  cases k <;> first | exact Bool.noConfusion h | (rcases List.mem_cons.mp hx with rfl | hx <;> first | exact rest h hx | exact nofun)
noncomputable def zTO (ns : List (Str × NameKind)) : List Str → Bool
 | [] => true
 | x :: r => kLoc (zAb x ns) && zTO ns r
noncomputable def ndB : List Str → Bool
 | [] => true
 | x :: r => match zBW x r with
  | true => false
  | false => ndB r
theorem zDA {x : Str} : ∀ {l : List Str}, zBW x l = false → x ∉ l
 | [], _, h => nomatch h
 | y :: r, h, hx => by
  unfold zBW at h
  split at h
  ·cases h
  ·rename_i q
   rcases List.mem_cons.mp hx with rfl | hx
   ·exact zAZ q rfl
   ·exact zDA h hx
theorem zBb {x : Str} : ∀ {l : List Str}, zBW x l = true → x ∈ l
 | [], h => by cases h
 | y :: r, h => by
  unfold zBW at h
  split at h
  ·rename_i q; rw [zAO q]; exact .head _
  ·exact .tail _ (zBb h)
theorem zEX : ∀ {l : List Str}, ndB l = true → l.Nodup
 | [], _ => List.nodup_nil
 | x :: r, h => by
  unfold ndB at h
  split at h
  ·cases h
  ·rename_i q; exact List.nodup_cons.mpr ⟨zDA q, zEX h⟩
noncomputable def zJd (v : Value) : Bool := match v with
 | .none => true
 | .bool _ => true
 | .int _ _ => true
 | .str s _ => zQv s
 | .type _ => true
 | .builtin n => handedIn (.builtin n)
 | .ref _ => true
 | _ => false
theorem zFp {v : Value} (h : zJd v = true) (B : Heap) (W : Wd) : Den B W (toSV v) v := by
 cases v <;> first | exact Bool.noConfusion h | skip
 ·rfl
 ·rfl
 ·exact ⟨_, rfl⟩
 ·exact ⟨⟨_, rfl⟩, zJT h⟩
 ·exact ⟨rfl, rfl⟩
 ·exact ⟨rfl, h⟩
 ·exact ⟨rfl, rfl⟩
noncomputable def zEA : List (Str × Value) → Bool
 | [] => true
 | (_, v) :: r => zJd v && zEA r
theorem zFO : ∀ {l : List (Str × Value)}, zEA l = true → ∀ x ∈ l, zJd x.2 = true := by
 intro l
 induction l with
 | nil => intro _ x hx; cases hx
 | cons p r ih =>
  intro h x hx
  obtain ⟨q, h⟩ := zAM h
  rcases List.mem_cons.mp hx with rfl | hx
  ·exact q
  ·exact ih h x hx
noncomputable def zHQ (k : ScopeKind) : Bool := match k with
 | .function => true
 | _ => false
theorem zLw {b : Bool} (h : (!b) = true) : b = false := by cases b <;> first | rfl | exact Bool.noConfusion h
theorem zCw {k : ScopeKind} (h : zHQ k = true) : k = .function := by cases k <;> first | rfl | exact Bool.noConfusion h
noncomputable def zPH (ns : List (Str × NameKind)) (cs : List Str) : List Str → Bool
 | [] => true
 | x :: r => (kLoc (zAb x ns) || (kCel (zAb x ns) && zBW x cs)) && zPH ns cs r
theorem zCg {ns : List (Str × NameKind)} {cs : List Str} : ∀ {l : List Str}, zPH ns cs l = true → ∀ x ∈ l, ns.lookup x = some .local ∨ (ns.lookup x = some .cell ∧ x ∈ cs)
 | y :: r, h, x, hx => by
  obtain ⟨hk, h⟩ := zAM h
  rcases List.mem_cons.mp hx with rfl | hx
  ·rcases (Bool.or_eq_true ..).mp hk with hk | hk
   ·exact .inl (zEh hk)
   ·exact .inr ⟨zIh (zAM hk).1, zBb (zAM hk).2⟩
  ·exact zCg h x hx
noncomputable def zJB : List Str → List Str → Bool
 | [], l => l.isEmpty
 | x :: xs, l => match l with
  | [] => false
  | y :: ys => Fast.sEq x y && zJB xs ys
theorem zGu : ∀ {xs ys : List Str}, zJB xs ys = true → xs = ys := by
 intro xs
 induction xs with
 | nil => intro ys h; cases ys <;> first | rfl | exact Bool.noConfusion h
 | cons x xs ih =>
  intro ys h
  cases ys with
  | nil => exact Bool.noConfusion h
  | cons y ys =>
   obtain ⟨q, h⟩ := zAM h
   rw [zAO q, ih h]
noncomputable def zGk (ns : List (Str × NameKind)) : List Str → Bool
 | [] => true
 | x :: r => kCel (zAb x ns) && zGk ns r
theorem zBw {ns : List (Str × NameKind)} : ∀ {l : List Str}, zGk ns l = true → ∀ x ∈ l, ns.lookup x = some .cell
 | y :: r, h, x, hx => by
  obtain ⟨hk, h⟩ := zAM h
  rcases List.mem_cons.mp hx with rfl | hx
  ·exact zIh hk
  ·exact zBw h x hx
noncomputable def zSx (e : FnE) : Bool := zGk e.scope.names e.cells && (zJB ((cellsFrom 0 e.scope.names []).map (·.1)) e.cells && (zPH e.scope.names e.cells (e.names ++ e.more.map (·.1)) && (ndB (e.names ++ e.more.map (·.1)) && (Nat.beq e.names.length e.na && (!e.scope.isCoroutine && (!e.scope.isGenerator && (zHQ e.scope.kind && zEA e.more)))))))
theorem zEn {e : FnE} (h : zSx e = true) : zGk e.scope.names e.cells = true ∧ zJB ((cellsFrom 0 e.scope.names []).map (·.1)) e.cells = true ∧ zPH e.scope.names e.cells (e.names ++ e.more.map (·.1)) = true ∧ ndB (e.names ++ e.more.map (·.1)) = true ∧ Nat.beq e.names.length e.na = true ∧ e.scope.isCoroutine = false ∧ e.scope.isGenerator = false ∧ zHQ e.scope.kind = true ∧ zEA e.more = true :=
 (zAM h).imp_right fun h => (zAM h).imp_right fun h => (zAM h).imp_right fun h => (zAM h).imp_right fun h => (zAM h).imp_right fun h => (zAM h).imp zLw fun h => (zAM h).imp zLw fun h => zAM h
theorem len1 {vs : List Value} (h : vs.length = 1) : ∃ a, vs = [a] := List.length_eq_one_iff.mp h
theorem lenS {vs : List Value} {n : Nat} (h : vs.length = n + 1) : ∃ a r, vs = a :: r ∧ r.length = n := by
 cases vs with
 | nil => cases h
 | cons a r => exact ⟨a, r, rfl, Nat.succ.inj h⟩
theorem len2 {vs : List Value} (h : vs.length = 2) : ∃ a b, vs = [a, b] := let ⟨a, _, e, h⟩ := lenS h; let ⟨b, q⟩ := len1 h; ⟨a, b, q ▸ e⟩
theorem len5 {vs : List Value} (h : vs.length = 5) : ∃ a b c d e, vs = [a, b, c, d, e] :=
 let ⟨a, _, e, h⟩ := lenS h; let ⟨b, _, e2, h⟩ := lenS h; let ⟨c, _, e3, h⟩ := lenS h; let ⟨x, y, q⟩ := len2 h; ⟨a, b, c, x, y, by rw [e, e2, e3, q]⟩
theorem FnOk.of {K : Frag} {e : FnE} (h : zSx e = true) (hc : codeIn K e.cd e.qual = true) (at_ : ∃ oc od osl fd, K.lookup e.fa = some (⟨oc, od, .func fd, osl⟩ : Obj) ∧ fd.body = .stmts e.body ∧ fd.scope = e.scope ∧ (∀ L a, callEnv fd L a = envOf e.qual e.scope L a e.cd) ∧ fd.code = e.cd ∧ fd.qualname = e.qual ∧
  ∀ (s : Shared) (vs : List Value), K.In s.heap → vs.length = e.na → BindsTo s fd ⟨vs, []⟩ (zipV e.names vs ++ e.more)) : FnOk K e := by
 obtain ⟨h0, h1, h2, h3, h4, h5, h6, h7, h8⟩ := zEn h
 refine ⟨at_, zBw h0, hc, fun n => (cellsFrom_names e.scope.names n 0 [] [] rfl).trans (zGu h1), zCg h2, zEX h3, Nat.eq_of_beq_eq_true h4, h5, h6, ?_, fun x hx B W => zFp (zFO h8 x hx) B W⟩
 exact zCw h7
noncomputable def isNN (x : Option (Option Value)) : Bool := match x with
 | none => false
 | some y => match y with
  | none => true
  | some _ => false
theorem zMW {x : Option (Option Value)} (h : isNN x = true) : x = some none := by
 cases x with
 | none => exact Bool.noConfusion h
 | some y => cases y <;> first | rfl | exact Bool.noConfusion h
noncomputable abbrev zRN (p : Value → Bool) (x : Option (Option Value)) : Bool := match x with
 | none => false
 | some y => match y with
  | none => false
  | some v => p v
theorem zFg {p : Value → Bool} {x : Option (Option Value)} (h : zRN p x = true) : ∃ v, x = some (some v) ∧ p v = true := by
 cases x with
 | none => exact Bool.noConfusion h
 | some y => cases y <;> first | exact ⟨_, rfl, h⟩ | exact Bool.noConfusion h
noncomputable def zMV (f : Addr) (x : Option (Option Value)) : Bool := zRN (fun v => match v with
 | .ref a => Nat.beq a f
 | _ => false) x
theorem zHW {f : Addr} {x : Option (Option Value)} (h : zMV f x = true) : x = some (some (.ref f)) := by
 obtain ⟨v, rfl, h⟩ := zFg h
 cases v <;> first | exact Bool.noConfusion h | rw [Nat.eq_of_beq_eq_true h]
noncomputable def isBi (n : String) (x : Option (Option Value)) : Bool := zRN (fun v => match v with
 | .builtin a => a == n
 | _ => false) x
theorem zMa {n : String} {x : Option (Option Value)} (h : isBi n x = true) : x = some (some (.builtin n)) := by
 obtain ⟨v, rfl, h⟩ := zFg h
 cases v <;> first | exact Bool.noConfusion h | rw [eq_of_beq h]
noncomputable def isT (x : Option Bool) : Bool := match x with
 | none => false
 | some b => b
theorem zSa {x : Option Bool} (h : isT x = true) : x = some true := by
 cases x with
 | none => exact Bool.noConfusion h
 | some b => exact congrArg some h
noncomputable def all' {α : Type} (p : α → Bool) : List α → Bool
 | [] => true
 | x :: r => p x && all' p r
theorem zBo {α : Type} {p : α → Bool} : ∀ {l : List α}, all' p l = true → ∀ x ∈ l, p x = true
 | y :: r, h, x, hx => by
  obtain ⟨q, h⟩ := zAM h
  rcases List.mem_cons.mp hx with rfl | hx
  ·exact q
  ·exact zBo h x hx
noncomputable def zGX (K : Frag) (p f : Addr) : Bool := match recIn K p "property" with
 | none => false
 | some l => match l with
  | [] => false
  | v :: _ => match v with
   | .ref a => Nat.beq a f
   | _ => false
theorem zIk {K : Frag} {p f : Addr} (h : zGX K p f = true) : ∃ rest, recIn K p "property" = some (.ref f :: rest) := by
 unfold zGX at h
 cases q : recIn K p "property" with
 | none => rw [q] at h; exact Bool.noConfusion h
 | some l =>
  rw [q] at h
  cases l with
  | nil => exact Bool.noConfusion h
  | cons v r => cases v <;> first | exact Bool.noConfusion h | (rw [Nat.eq_of_beq_eq_true h]; exact ⟨r, rfl⟩)
noncomputable def zNC (K : Frag) (C : Addr) : Bool := plainGet K C (Str.ofString "") && (hasDictIn K C && (isBi "object.__setattr__" (findIn K (.ref C) "__setattr__") && plainOver K C))
noncomputable def zPr (K : Frag) (c : ClsE) : Bool := zNC K c.C && (all' (fun a => isNN (findIn K (.ref c.C) a) && isNN (takerIn K c.C a)) c.attrs &&
  (all' (fun p => zMV p.2 (findIn K (.ref c.C) p.1) && isFn K (.ref p.2)) c.meths &&
   all' (fun p => zMV p.2.1 (findIn K (.ref c.C) p.1) && (isBi "property.__get__" (specialIn K (.ref p.2.1) "__get__") && (isT (takesIn K (.ref p.2.1)) && zGX K p.2.1 p.2.2))) c.props))
theorem ClsOk.of {K : Frag} {c : ClsE} (h : zPr K c = true) : ClsOk K c := by
 unfold zPr zNC at h
 obtain ⟨b0, h⟩ := zAM h
 obtain ⟨b1, b0⟩ := zAM b0
 obtain ⟨b2, b0⟩ := zAM b0
 obtain ⟨b3, b4⟩ := zAM b0
 obtain ⟨h1, h⟩ := zAM h
 obtain ⟨h2, h3⟩ := zAM h
 refine ⟨fun a ha => ?_, fun a ha => ?_, fun a f hf => ?_, fun a p f hf => ?_⟩
 ·exact ⟨b1, b2, zMW (zAM (zBo h1 a (zBb ha))).1⟩
 ·exact ⟨zMa b3, b4, zMW (zAM (zBo h1 a (zBb ha))).2⟩
 ·have z := zAM (zBo h2 _ (zCX hf))
  exact ⟨b1, zHW z.1, z.2⟩
 ·have z := zAM (zBo h3 _ (zCX hf))
  have y := zAM z.2
  exact ⟨b1, b2, zHW z.1, zMa y.1, zSa (zAM y.2).1, zIk (zAM y.2).2⟩
noncomputable def zCI (K : Frag) (p : Str × Value) : Prop := zJd p.2 = true ∧ (nsIn K mainGlobals p.1 = some (some p.2) ∨ (nsIn K mainGlobals p.1 = some none ∧ bootBuiltins p.1 = some p.2 ∧ Fast.sEq p.1 "__name__" = false))
theorem zAn {K : Frag} {g : List (Str × Value)} (h : ∀ p ∈ g, zCI K p) : ∀ x v, lk x g = some v → (∀ B ads, Den B ads (toSV v) v) ∧ (nsIn K mainGlobals x = some (some v) ∨ (nsIn K mainGlobals x = some none ∧ bootBuiltins x = some v ∧ x ≠ "__name__")) := fun x v e => by
 obtain ⟨a, b⟩ := h _ (zCX e)
 refine ⟨fun B W => zFp a B W, ?_⟩
 rcases b with b | ⟨b, c, d⟩
 ·exact .inl b
 ·exact .inr ⟨b, c, zAZ d⟩
theorem zAY {C C' : Cf} {F : Fm} (e : C'.K = C.K) (ok : FmOk C F) (hk : C'.known = true → C.known = true) : FmOk C' F := ⟨e ▸ ok.X, ok.G, ok.stay, ok.kind, ok.hand, fun q => ok.stack (hk q), fun q => ok.loud (hk q), ok.low, ok.loc, ok.gl, ok.bi, ok.cel, ok.cel2⟩
theorem zAD {α : Type} {p : α → Prop} : ∀ x ∈ ([] : List α), p x := fun _ h => by cases h
theorem zAA {α : Type} {p : α → Prop} {a : α} {l : List α} (h : p a) (r : ∀ x ∈ l, p x) : ∀ x ∈ a :: l, p x := fun x hx => by
 rcases List.mem_cons.mp hx with rfl | hx
 ·exact h
 ·exact r x hx
section
variable {w : World} {C : Cf} {F : Fm} {ads : Wd} {s : Shared} {n : Nat} {st : St} {Q : CR → Shared → Prop} {E : Value → Shared → Prop}
theorem zKw {t : Expr} {b : List Stmt} {K : SR → St → Prop} (cok : CfOk w C) (ok : FmOk C F) (hd : F.A.depth + n < recursionLimit) (hu : F.A.units + 8 * n < cLine)
  (ht : ev C n F.sc.names (.tr t) st (fun r st' => r = .b true ∧ st' = st))
  (h : ev C n F.sc.names (.sts b) st (fun r st' => ∃ st'', Trim st.led.length st' st'' ∧ K r st''))
  (R : Rep w F ads st s.heap) (flow : ∀ r st'', K r st'' → r = .next ∨ r = .cont ∨ r = .brk)
  (next : ∀ st'' z s', K .next st'' ∨ K .cont st'' → Rep w F (wa ads (⟨[], z⟩ : Wd)) st'' s'.heap → Nx F s s' → Goal w F (.wl t b) Q E s')
  (brk : ∀ st'' z s', K .brk st'' → Rep w F (wa ads (⟨[], z⟩ : Wd)) st'' s'.heap → Nx F s s' → Q (.fl .next) s') : Goal w F (.wl t b) Q E s := by
 have sn := zBY cok n
 refine zHq (sn F _ (.tr t) st _ ads s (fun c s' => match c with
  | .b c => if c then wpAny (model prog w) F.A (execs b F.env) (fun f s₃ => match f with
      | .next | .cont => codeAny (model prog w) F.A (.whileLoop t b [] F.env) _ s₃
      | .brk => Q (.fl .next) s₃
      | .ret v => Q (.fl (.ret v)) s₃) _ s' else Q (.fl .next) s'
  | _ => False) ok hd hu ht R ?_)
 rintro a st₁ m1 c s₁ ⟨rfl, rfl⟩ R₁ x₁ d₁
 cases c with
 | b c' =>
  cases d₁
  dsimp only
  rw [if_pos rfl]
  have len1 : st₁.led.length = ads.ads.length := zBg R
  have len2 : st₁.led.length = (wa ads m1).ads.length := zBg R₁
  refine sn F _ (.sts b) st₁ _ (wa ads m1) s₁ (fun c s' => match c with
     | .fl f => match f with
      | .next | .cont => codeAny (model prog w) F.A (.whileLoop t b [] F.env) _ s'
      | .brk => Q (.fl .next) s'
      | .ret v => Q (.fl (.ret v)) s'
     | _ => False) ok hd hu h R₁ ?_
  intro r st₂ m2 c s₂ hk R₂ x₂ d₂
  obtain ⟨st₃, tr, hk⟩ := hk
  rw [Wd.append_assoc] at R₂
  rw [len1] at tr
  obtain ⟨z, R₃⟩ := zCm ok R₂ tr
  have x₃ := x₁.trans x₂
  rcases flow _ _ hk with rfl | rfl | rfl
  ·cases c with
   | fl f =>
    cases f <;> try exact d₂.elim
    exact next st₃ z s₂ (.inl hk) R₃ x₃
   | _ => exact d₂.elim
  ·cases c with
   | fl f =>
    cases f <;> try exact d₂.elim
    exact next st₃ z s₂ (.inr hk) R₃ x₃
   | _ => exact d₂.elim
  ·cases c with
   | fl f =>
    cases f <;> try exact d₂.elim
    exact brk st₃ z s₂ hk R₃ x₃
   | _ => exact d₂.elim
 | _ => exact d₁.elim
end
set_option backward.match.sparseCases true
section
variable {w : World} {C : Cf} {F : Fm} {ads : Wd} {s : Shared} {st : St}
theorem zCe {B : Heap} {a1 a2 : List (Addr × Addr)} {fz : List (Addr × Obj)} {x : SV} {v : Value} (hp : okV a1.length x) (d : Den B ⟨a1 ++ a2, fz⟩ x v) : Den B ⟨a1, fz⟩ x v := by
 cases x with
 | obj i =>
  obtain ⟨p, hp', e⟩ := d
  refine ⟨p, ?_, e⟩
  rw [List.getElem?_append_left hp] at hp'
  exact hp'
 | _ => exact d
theorem zJc {B : Heap} {a1 a2 : List (Addr × Addr)} {fz : List (Addr × Obj)} : ∀ {xs : List SV} {vs : List Value}, (∀ x ∈ xs, okV a1.length x) → DenL B ⟨a1 ++ a2, fz⟩ xs vs → DenL B ⟨a1, fz⟩ xs vs := by
 intro xs vs p r
 induction r with
 | nil => exact .nil
 | cons d _ ih => exact .cons (zCe (p _ (.head _)) d) (ih fun x hx => p x (.tail _ hx))
theorem zLp {α : Type} (a b c : List α) : (a ++ b ++ c).Perm (b ++ (a ++ c)) := by
 rw [← List.append_assoc b]; exact List.Perm.append_right _ List.perm_append_comm
theorem zPW {α : Type} (a b c : List α) (x : α) : (a ++ (b ++ x :: c)).Perm (x :: (a ++ (b ++ c))) := by
 rw [← List.append_assoc, ← List.append_assoc]; exact List.perm_middle
theorem zOr {P : Params} {B : Heap} {a1 a2 : List (Addr × Addr)} {fz : List (Addr × Obj)} : ∀ {fs : List (Str × SV)} {es : List DictEntry}, okF a1.length fs → EntR P B ⟨a1 ++ a2, fz⟩ es fs → EntR P B ⟨a1, fz⟩ es fs := by
 intro fs es h r
 induction r with
 | nil => exact .nil
 | cons d _ ih => exact .cons (zCe h.1 d) (ih h.2)
theorem zRF {B : Heap} {a1 a2 : List (Addr × Addr)} {fz : List (Addr × Obj)} : ∀ {fs : List (Str × SV)} {kvs : List (Str × Value)}, okF a1.length fs → KvR B ⟨a1 ++ a2, fz⟩ fs kvs → KvR B ⟨a1, fz⟩ fs kvs := by
 intro fs es h r
 induction r with
 | nil => exact .nil
 | cons d _ ih => exact .cons (zCe h.1 d) (ih h.2)
noncomputable def okO (n : Nat) : SO → Prop
 | .inst _ fs => okF n fs
 | .list xs => ∀ x ∈ xs, okV n x
 | .tup xs => ∀ x ∈ xs, okV n x
 | .cell (some v) => okV n v
 | .dic fs => okF n fs
 | .it _ v _ => okV n v
 | _ => True
noncomputable def okL (n : Nat) : List SO → Prop
 | [] => True
 | o :: r => okO n o ∧ okL n r
theorem zQr {P : Params} {B : Heap} {a1 a2 : List (Addr × Addr)} {fz : List (Addr × Obj)} {so : SO} {a d : Addr} {ps : List (Addr × Obj)} (h : okO a1.length so) (o : One P B ⟨a1 ++ a2, fz⟩ so a d ps) : One P B ⟨a1, fz⟩ so a d ps := by
 cases so with
 | inst => obtain ⟨_, _, e, rfl⟩ := o.inv; exact .inst (zOr h e)
 | raw => obtain rfl := o.inv; exact .raw
 | list => obtain ⟨_, _, e, rfl⟩ := o.inv; exact .list (zJc h e)
 | tup => obtain ⟨_, _, e, rfl⟩ := o.inv; exact .tup (zJc h e)
 | cell v =>
  obtain ⟨_, rfl, e⟩ := o.inv
  cases v with
  | some _ => obtain ⟨_, e, d⟩ := e; exact .cell e (zCe h d)
  | none => exact .cell0 e
 | dic => obtain ⟨_, _, e, f, rfl⟩ := o.inv; exact .dic e (zRF h f)
 | it => obtain ⟨_, _, e, d, rfl⟩ := o.inv; exact .it e (zCe h d)
 | itr => obtain rfl := o.inv; exact .itr
 | rng => obtain ⟨_, _, _, e, rfl⟩ := o.inv; exact .rng e
 | tab => obtain ⟨rfl, _, e, rfl⟩ := o.inv; exact .tab e
 | gone => obtain rfl := o.inv; exact .gone
theorem zRD {P : Params} {B : Heap} {a1 a2 : List (Addr × Addr)} {fz : List (Addr × Obj)} : ∀ {led : List SO} {as : List (Addr × Addr)} {news : List (Addr × Obj)}, okL a1.length led → LedR P B ⟨a1 ++ a2, fz⟩ as led news → LedR P B ⟨a1, fz⟩ as led news := by
 intro led as news h r
 induction r with
 | nil => exact .nil
 | cons o _ ih => exact .cons (zQr h.1 o) (ih h.2)
theorem zFu {kindOf : Str → Option NameKind} {x : Str} : ∀ {binds : List (Str × Value)} {m : Str → Option Value}, x ∉ binds.map (·.1) → bindL kindOf binds m x = m x
 | [], _, _ => rfl
 | (n, v) :: r, m, h => by
  rw [List.map_cons, List.mem_cons, not_or] at h
  unfold bindL
  rw [zFu h.2]
  split
  ·exact if_neg h.1
  ·rfl
theorem zDW {kindOf : Str → Option NameKind} {x : Str} : ∀ {binds : List (Str × Value)} {m : Str → Option Value}, x ∉ binds.map (·.1) → bindC kindOf binds m x = m x
 | [], _, _ => rfl
 | (n, v) :: r, m, h => by
  rw [List.map_cons, List.mem_cons, not_or] at h
  unfold bindC
  rw [zDW h.2]
  split
  ·rfl
  ·exact if_neg h.1
theorem zHy {kindOf : Str → Option NameKind} {x : Str} {v : Value} (hk : kindOf x = some .local) : ∀ {binds : List (Str × Value)} {m : Str → Option Value}, (binds.map (·.1)).Nodup → (x, v) ∈ binds → bindL kindOf binds m x = some v
 | (n, u) :: r, m, nd, h => by
  rw [List.map_cons, List.nodup_cons] at nd
  unfold bindL
  rcases List.mem_cons.mp h with e | h
  ·cases e
   rw [zFu nd.1, if_pos hk]
   exact if_pos rfl
  ·exact zHy hk nd.2 h
theorem zHz {kindOf : Str → Option NameKind} {x : Str} {v : Value} (hk : kindOf x ≠ some .local) : ∀ {binds : List (Str × Value)} {m : Str → Option Value}, (binds.map (·.1)).Nodup → (x, v) ∈ binds → bindC kindOf binds m x = some v
 | (n, u) :: r, m, nd, h => by
  rw [List.map_cons, List.nodup_cons] at nd
  unfold bindC
  rcases List.mem_cons.mp h with e | h
  ·cases e
   rw [zDW nd.1, if_neg hk]
   exact if_pos rfl
  ·exact zHz hk nd.2 h
noncomputable def zBm (loc : List (Str × SV)) : List Str → List SO
 | [] => []
 | c :: r => .cell (lk c loc) :: zBm loc r
noncomputable def zDV : List Str → Nat → List (Str × SV)
 | [], _ => []
 | c :: r, i => (c, .obj i) :: zDV r (i + 1)
noncomputable def zBu (cs : List Str) (loc : List (Str × SV)) (led : List SO) : St := match cs with
 | [] => ⟨loc, led⟩
 | c :: r => ⟨zDV (c :: r) led.length ++ loc, led ++ zBm loc (c :: r)⟩
theorem zKh (cs : List Str) (loc : List (Str × SV)) (led : List SO) : zBu cs loc led = ⟨zDV cs led.length ++ loc, led ++ zBm loc cs⟩ := by
 cases cs with
 | nil => show St.mk _ _ = St.mk _ _; simp [zDV, zBm]
 | cons c r => rfl
theorem zFd {x : Str} {sv : SV} : ∀ {cs : List Str} {i : Nat} {loc : List (Str × SV)}, lk x (zDV cs i ++ loc) = some sv → (∃ j, cs[j]? = some x ∧ sv = .obj (i + j)) ∨ (x ∉ cs ∧ lk x loc = some sv)
 | [], i, loc, h => .inr ⟨List.not_mem_nil, h⟩
 | c :: r, i, loc, h => by
  have h' : lk x ((c, SV.obj i) :: (zDV r (i + 1) ++ loc)) = some sv := h
  unfold lk at h'
  cases q : Fast.sEq x c with
  | true =>
   rw [q] at h'; cases h'
   exact .inl ⟨0, by rw [zAO q]; rfl, rfl⟩
  | false =>
   rw [q] at h'
   rcases zFd h' with ⟨j, a, b⟩ | ⟨a, b⟩
   ·exact .inl ⟨j + 1, by simpa using a, by rw [b]; congr 1; lia⟩
   ·exact .inr ⟨by rw [List.mem_cons, not_or]; exact ⟨zAZ q, a⟩, b⟩
theorem zND {P : Params} {B : Heap} {G : Wd} {cm : Str → Option Value} {loc : List (Str × SV)} : ∀ {cs : List (Str × Addr)} {cells : List (Addr × Obj)}, CellsAre cm cs cells → (∀ n ∈ cs.map (·.1), (lk n loc = none ∧ cm n = none) ∨ ∃ sv v, lk n loc = some sv ∧ cm n = some v ∧ Den B G sv v) →
  LedR P B G (cs.map fun p => (p.2, 0)) (zBm loc (cs.map (·.1))) cells := by
 intro cs cells r
 induction r with
 | nil => exact fun _ => .nil
 | @cons n c o cs cells hd r ih =>
  intro h
  have one : One P B G (.cell (lk n loc)) c 0 [(c, o)] := by
   rcases h n (.head _) with ⟨a, b⟩ | ⟨sv, v, a, b, d⟩
   ·rw [a]; rw [b] at hd; exact .cell0 hd
   ·rw [a]; rw [b] at hd; exact .cell hd d
  exact .cons one (ih fun m hm => h m (.tail _ hm))
theorem zDF {cm : Str → Option Value} : ∀ {cs : List (Str × Addr)} {cells : List (Addr × Obj)}, CellsAre cm cs cells → cells.map (·.1) = cs.map (·.2) := by
 intro cs cells h
 induction h with
 | nil => rfl
 | cons _ _ ih => rw [List.map_cons, List.map_cons, ih]
theorem zPD {cs : List (Str × Addr)} (nd : (cs.map (·.1)).Nodup) {x : Str} {j : Nat} (h : (cs.map (·.1))[j]? = some x) : ∃ a, cs.lookup x = some a ∧ cs[j]? = some (x, a) := by
 rw [List.getElem?_map, Option.map_eq_some_iff] at h
 obtain ⟨p, hp, rfl⟩ := h
 exact ⟨p.2, lookup_of_mem_nodup nd (List.mem_of_getElem? hp), hp⟩
structure FnOk0 (K : Frag) (e : FnE) : Prop where
 at_ : ∃ oc od osl fd, K.lookup e.fa = some (⟨oc, od, .func fd, osl⟩ : Obj) ∧ fd.body = .stmts e.body ∧ fd.scope = e.scope ∧ (∀ L a, callEnv fd L a = envOf e.qual e.scope L a e.cd) ∧ fd.code = e.cd ∧ fd.qualname = e.qual
 celk : ∀ x ∈ e.cells, e.scope.names.lookup x = some .cell
 code : codeIn K e.cd e.qual = true
 cells : ∀ n, (cellsFrom n e.scope.names []).map (·.1) = e.cells
 co : e.scope.isCoroutine = false
 gen : e.scope.isGenerator = false
 kind : e.scope.kind = .function
theorem FnOk.to0 {K : Frag} {e : FnE} (f : FnOk K e) : FnOk0 K e :=
 let ⟨oc, od, osl, fd, g1, g2, g3, g4, g5, g6, _⟩ := f.at_
 ⟨⟨oc, od, osl, fd, g1, g2, g3, g4, g5, g6⟩, f.celk, f.code, f.cells, f.co, f.gen, f.kind⟩
theorem zHl {loc₀ : List (Str × SV)} {args : Args} {e : FnE} {A : Around} {Rr : Result → Shared → Prop} {led₁ led₂ : List SO} (fo : FnOk0 C.K e) (ok : FmOk C F)
  (hA : C.known = true → A.frames = some F.stk) (hh : A.handled = none) (hd : A.depth < recursionLimit) (R : Rep w F ads st s.heap)
  (hled : st.led = led₁ ++ led₂) (hol : okL led₁.length led₁) (hov : okF led₁.length loc₀) (hcn : e.cells.Nodup)
  (hbind : ∀ (oc : Value) (od : Option Addr) (osl : Array (Option Value)) (fd : FuncData), C.K.lookup e.fa = some (⟨oc, od, .func fd, osl⟩ : Obj) → C.K.In s.heap → ∀ (M : Model) (A : Around) (E : Value → Shared → Prop) (Q : List (Str × Value) → Shared → Prop),
   (∀ h' binds, (∀ b o, s.heap.get? b = some o → h'.get? b = some o) → (∀ x ∈ binds, e.scope.names.lookup x.1 = some .local ∨ (e.scope.names.lookup x.1 = some .cell ∧ x.1 ∈ e.cells)) → (binds.map (·.1)).Nodup → (∀ x sv, lk x loc₀ = some sv → ∃ v, (x, v) ∈ binds ∧ Den F.B ads sv v) →
    (∀ x ∈ binds.map (·.1), x ∈ e.cells → (lk x loc₀).isSome = true) → Q binds { s with heap := h' }) →
   wpAny M A (bindArgs fd args) Q E s)
  (h : ∀ (F' : Fm) (W Wc : Wd) (h₁ : Heap) (t : Nat), FmOk C F' → F'.A = A.deeper F'.env → F'.sc = e.scope → F'.B = F.B → (F'.stk = F'.env :: F.stk ∧ F'.quiet = F.quiet ∧ F'.env.code = e.cd) → Wc.fz = [] → W.ads.length = led₁.length → Rep w F' (wa W Wc) (zBu e.cells loc₀ led₁) h₁ →
   (∀ z loc' led' h', Rep w F' (wa W (⟨[], z⟩ : Wd)) ⟨loc', led'⟩ h' → Rep w F (wa ads (⟨[], z⟩ : Wd)) { loc := st.loc, led := led' ++ led₂ } h') →
   (∀ z y v, Den F.B (wa W (⟨[], z⟩ : Wd)) y v → Den F.B (wa ads (⟨[], z⟩ : Wd)) y v) →
   wpAny (model prog w) F'.A (execs e.body F'.env) (fun f s' => Rr (.ok (.ret (match f with | .ret v => v | _ => .none))) s')
    (fun x s' => wpAny (model prog w) F'.A (leaving F'.env x) (fun _ s'' => Rr (.error x) s'') (fun x' s'' => Rr (.error x') s'') s') { s with heap := h₁, toks := t }) :
  codeAny (model prog w) A (.call (.ref e.fa) args) Rr s := by
 obtain ⟨oc, od, osl, fd, g1, g2, g3, g4, g5, g6⟩ := fo.at_
 have XK0 : C.K.In s.heap := zFL ok R
 have hclo : fd.closure = [] := congrArg Env.cells (g4 0 0)
 refine codeAny_call_function hd (XK0 _ _ g1) rfl (by rw [g3]; exact fo.co) (by rw [g3]; exact fo.gen) g2 (by rw [g5, g6]; exact codeRec_of XK0 fo.code) (hbind oc od osl fd g1 XK0 _ _ _ _ fun hb binds kb hloc nd hden hall => ?_)
 have R := zCn R kb
 revert R
 generalize es0 : ({ s with heap := hb } : Shared) = s₀
 intro R
 have ehb : s₀.heap = hb := by rw [← es0]
 rw [← ehb] at R
 have nx0 : ∀ h₁ t, ({ s₀ with heap := h₁, toks := t } : Shared) = { s with heap := h₁, toks := t } := fun h₁ t => by rw [← es0]
 have hlim : s₀.heap.NoLimit := let ⟨_, _, _, X⟩ := R; ok.G.lim.keeps X.fr.keep
 rw [hclo]
 have hkind : ∀ x ∈ binds, fd.scope.names.lookup x.1 = some .local ∨ (fd.scope.names.lookup x.1 = some .cell ∧ ((cellsFrom (s₀.heap.objs.size + 1) fd.scope.names []).lookup x.1).isSome = true) := fun x hx => by
  rw [g3]
  exact (hloc x hx).imp id fun q => ⟨q.1, cellsFrom_some _ _ _ (.inl q.1)⟩
 refine wpAny_newFunctionEnv_cells (by rw [g3]; exact fo.kind) hkind fun env he s₁ IC => ⟨hlim.keeps IC.toInCall.keep, codeAny_func ?_⟩
 let cs : List (Str × Addr) := cellsFrom (s₀.heap.objs.size + 1) e.scope.names []
 let en : Env := { envOf e.qual e.scope s₀.heap.objs.size e.fa e.cd with cells := cs }
 have hen : env = en := by
  rw [he]
  have g4' := g4 s₀.heap.objs.size e.fa
  show newEnv fd.scope s₀.heap.objs.size fd.globals (cellsFrom (s₀.heap.objs.size + 1) fd.scope.names []) (fd.qualname ++ ".<locals>.") (some e.fa) fd.code none fd.builtins = _
  rw [g3]
  have g4'' : { callEnv fd s₀.heap.objs.size e.fa with cells := cs } = en := by rw [g4']
  rw [← g4'']
  show newEnv e.scope _ _ _ _ _ _ _ _ = { newEnv fd.scope s₀.heap.objs.size fd.globals fd.closure (fd.qualname ++ ".<locals>.") (some e.fa) fd.code none fd.builtins with cells := cs }
  rw [g3]; rfl
 clear he
 subst hen
 obtain ⟨h₁, tk, rfl⟩ := IC.toInCall.same
 have hns : h₁.Ns s₀.heap.objs.size (bindL en.kindOf binds fun _ => none) := IC.toInCall.ns
 have hk₁ : ∀ b o, s₀.heap.get? b = some o → h₁.get? b = some o := IC.toInCall.keep
 have hcell : ∀ n c, cs.lookup n = some c → h₁.IsCell c (bindC en.kindOf binds (fun _ => none) n) := IC.cell
 have hap : cs.Pairwise fun x y => x.2 ≠ y.2 := IC.apart
 have hab : ∀ n c, (n, c) ∈ cs → s₀.heap.objs.size < c := IC.above
 have csn : cs.map (·.1) = e.cells := fo.cells _
 clear IC
 rw [nx0]
 obtain ⟨m, news, lw, X⟩ := R
 obtain ⟨oL, es, ep, hL, hLd, hLk, hLf⟩ := X.fr.ns
 have hF0 : F.h₀.get? F.L = none := by
  cases q : F.h₀.get? F.L with
  | none => rfl
  | some o => exact absurd (Heap.lt_size q) (Nat.not_lt.mpr X.fr.above)
 -- the ledger in two
 obtain ⟨asx, fz⟩ := ads
 obtain ⟨a1, a2, ea, hla⟩ : ∃ a1 a2, asx = a1 ++ a2 ∧ led₁.length = a1.length := by
  refine ⟨asx.take led₁.length, asx.drop led₁.length, (List.take_append_drop _ _).symm, ?_⟩
  have q : st.led.length = asx.length := X.led.length
  rw [hled, List.length_append] at q
  rw [List.length_take]; lia
 subst ea
 obtain ⟨n1, n2, e12, r1, r2⟩ : ∃ n1 n2, news = n1 ++ n2 ∧ LedR w.params F.B ⟨a1 ++ a2, fz⟩ a1 led₁ n1 ∧ LedR w.params F.B ⟨a1 ++ a2, fz⟩ a2 led₂ n2 := by
  have q := X.led
  rw [hled] at q
  exact zHN hla q
 subst e12
 let all : List (Addr × Obj) := n1 ++ (fz ++ ((F.L, oL) :: lw))
 have pmX : (n1 ++ n2 ++ (fz ++ lw)).Perm (n2 ++ (n1 ++ (fz ++ lw))) := zLp _ _ _
 have ndX := (pmX.map (·.1)).nodup_iff.mp X.nd
 rw [List.map_append] at ndX
 have ndX' := List.nodup_append.mp ndX
 have pmA : all.Perm ((F.L, oL) :: (n1 ++ (fz ++ lw))) := zPW _ _ _ _
 have inX : ∀ p ∈ n1 ++ (fz ++ lw), p ∈ n1 ++ n2 ++ (fz ++ lw) := fun p hp => pmX.mem_iff.mpr (List.mem_append_right _ hp)
 have nwA : ∀ p ∈ all, s₀.heap.get? p.1 = some p.2 ∧ F.h₀.get? p.1 = none := fun p hp => by
  rcases List.mem_cons.mp (pmA.mem_iff.mp hp) with rfl | q
  ·exact ⟨hL, hF0⟩
  ·exact ⟨(X.nw p (inX p q)).1, (X.nw p (inX p q)).2.2⟩
 have ndA : (all.map (·.1)).Nodup := by
  refine (pmA.map (·.1)).nodup_iff.mpr (List.nodup_cons.mpr ⟨fun q => ?_, ndX'.2.1⟩)
  obtain ⟨p, hp, e⟩ := List.mem_map.mp q
  exact (X.nw p (inX p hp)).2.1 e
 have nm : ∀ b o, F.h₀.get? b = some o → b ∉ all.map (·.1) := fun b o e q => by
  obtain ⟨p, hp, rfl⟩ := List.mem_map.mp q
  rw [(nwA p hp).2] at e; cases e
 have in2 : ∀ p ∈ n2, p ∈ n1 ++ n2 ++ (fz ++ lw) := fun p hp => pmX.mem_iff.mpr (List.mem_append_left _ hp)
 have nm2 : ∀ p ∈ n2, p.1 ∉ all.map (·.1) := fun p hp q => by
  have : p.1 ∈ ((F.L, oL) :: (n1 ++ (fz ++ lw))).map (·.1) := (pmA.map (·.1)).mem_iff.mp q
  rcases List.mem_cons.mp this with q | q
  ·exact (X.nw p (in2 p hp)).2.1 q
  ·exact ndX'.2.2 _ (List.mem_map_of_mem hp) _ q rfl
 have stay : F.h₀.StaysIn (hideAll s₀.heap (all.map (·.1))) := fun b o e => hideAll_get _ (X.fr.keep b o e) (nm b o e)
 let F' : Fm := ⟨F.B, hideAll s₀.heap (all.map (·.1)), s₀.heap.objs.size, en, A.deeper en, en :: F.stk, (F.L, oL) :: lw, F.quiet⟩
 have low' : LowOk (en :: F.stk) s₀.heap.objs.size ((F.L, oL) :: lw) := by
  exact (ok.low.ups X.ups).push (by show e.scope.kind ≠ _; rw [fo.kind]; decide) rfl fun vs q => by rw [hLd] at q; cases q
 have csnd : (cs.map (·.1)).Nodup := by rw [csn]; exact hcn
 have cel : ∀ x, e.scope.names.lookup x = some .local → cs.lookup x = none := fun x hx => by
  cases q : cs.lookup x with
  | none => rfl
  | some a =>
   have : x ∈ e.cells := csn ▸ List.mem_map_of_mem (mem_of_lookup q)
   rw [fo.celk x this] at hx; cases hx
 have ok' : FmOk C F' := ⟨ok.X.keeps stay, ok.G.keeps stay, fun b o e => stay b o (ok.stay b o e), fo.kind, hh, fun q => Around.frames_deeper (hA q), ok.loud, low', rfl, rfl, rfl, cel, fun x hx => Option.isSome_iff_exists.mp (cellsFrom_some _ _ _ (.inl hx))⟩
 rw [hla] at hol hov
 -- the cells
 obtain ⟨cells, cnw, car⟩ := Cl.news (h₀ := F'.h₀) (h := h₁) (L := s₀.heap.objs.size) (cm := bindC en.kindOf binds (fun _ => none)) (Nat.le_of_eq (hideAll_size _ _)) (cs := cs) fun n c hm => ⟨hcell n c (lookup_of_mem_nodup csnd hm), hab n c hm⟩
 have cbig : ∀ p ∈ cells, s₀.heap.objs.size < p.1 := fun p hp => by
  have : p.1 ∈ cs.map (·.2) := zDF car ▸ List.mem_map_of_mem hp
  obtain ⟨q, hq, e⟩ := List.mem_map.mp this
  exact e ▸ hab q.1 q.2 hq
 have R' : Rep w F' (wa (⟨a1, fz⟩ : Wd) (⟨cs.map fun p => (p.2, 0), []⟩ : Wd)) (zBu e.cells loc₀ led₁) h₁ := by
  rw [zKh]
  have efz : (wa (⟨a1, fz⟩ : Wd) (⟨cs.map fun p => (p.2, 0), []⟩ : Wd)).fz = fz := List.append_nil _
  have pm : (n1 ++ cells ++ (fz ++ (F.L, oL) :: lw)).Perm (cells ++ all) := zLp _ _ _
  refine ⟨_, n1 ++ cells, (F.L, oL) :: lw, ⟨hns, fun b o q => hk₁ b o (of_hideAll _ q), Nat.le_of_eq (hideAll_size _ _)⟩, fun p hp => ?_, ?_, ?_, ?_, Ups.refl _⟩
  ·rw [efz] at hp
   rcases List.mem_append.mp (pm.mem_iff.mp hp) with hp | hp
   ·exact cnw p hp
   ·exact ⟨hk₁ _ _ (nwA p hp).1, Nat.ne_of_lt (Heap.lt_size (nwA p hp).1), hideAll_none _ (List.mem_map_of_mem hp)⟩
  ·intro x sv hx
   show ∃ v, locM en (bindL en.kindOf binds fun _ => none) x = some v ∧ _
   rcases zFd hx with ⟨j, hj, rfl⟩ | ⟨hx, hl⟩
   ·rw [← csn] at hj
    obtain ⟨a, q1, q2⟩ := zPD csnd hj
    refine ⟨.ref a, by unfold locM; rw [show en.cells.lookup x = some a from q1], (a, 0), ?_, rfl⟩
    show (a1 ++ cs.map fun p => (p.2, 0))[led₁.length + j]? = _
    rw [hla, List.getElem?_append_right (by lia), Nat.add_sub_cancel_left, List.getElem?_map, q2]; rfl
   ·obtain ⟨v, a, b⟩ := hden x sv hl
    have hk : e.scope.names.lookup x = some .local := (hloc _ a).resolve_right fun q => hx q.2
    refine ⟨v, ?_, (zCe (zEV hov _ (zCX hl)) b).mono⟩
    have : locM en (bindL en.kindOf binds fun _ => none) x = (bindL en.kindOf binds fun _ => none) x := by unfold locM; rw [show en.cells.lookup x = none from cel x hk]
    rw [this]
    exact zHy hk nd a
  ·show LedR w.params F.B _ (a1 ++ cs.map fun p => (p.2, 0)) (led₁ ++ zBm loc₀ e.cells) (n1 ++ cells)
   refine LedR.append ((zRD hol r1).mono) ?_
   rw [← csn]
   refine zND car fun n hn => ?_
   have hkc : e.scope.names.lookup n = some .cell := fo.celk n (csn ▸ hn)
   have hnl : en.kindOf n ≠ some .local := by rw [show en.kindOf n = some .cell from hkc]; decide
   cases q : lk n loc₀ with
   | some sv =>
    obtain ⟨v, a, b⟩ := hden n sv q
    exact .inr ⟨sv, v, rfl, zHz hnl nd a, (zCe (zEV hov _ (zCX q)) b).mono⟩
   | none =>
    refine .inl ⟨rfl, zDW fun hm => ?_⟩
    have := hall n hm (csn ▸ hn)
    rw [q] at this; cases this
  ·rw [efz]
   refine (pm.map (·.1)).nodup_iff.mpr ?_
   rw [List.map_append, List.nodup_append]
   refine ⟨?_, ndA, fun a ha b hb e => ?_⟩
   ·rw [zDF car, List.nodup_iff_pairwise_ne, List.pairwise_map]; exact hap
   ·obtain ⟨p, hp, rfl⟩ := List.mem_map.mp ha
    obtain ⟨q, hq, rfl⟩ := List.mem_map.mp hb
    have h1 := cbig p hp
    have h2 := Heap.lt_size (nwA q hq).1
    rw [e] at h1
    exact Nat.lt_asymm h1 h2
 have eW : ∀ z : List (Addr × Obj), (wa (⟨a1 ++ a2, fz⟩ : Wd) (⟨[], z⟩ : Wd)) = (wa (wa (⟨a1, fz⟩ : Wd) (⟨[], z⟩ : Wd)) (⟨a2, []⟩ : Wd)) := fun z => by
  show Wd.mk (a1 ++ a2 ++ []) (fz ++ z) = Wd.mk (a1 ++ [] ++ a2) (fz ++ z ++ [])
  simp
 refine h F' ⟨a1, fz⟩ _ h₁ _ ok' rfl rfl rfl ⟨rfl, rfl, rfl⟩ rfl hla.symm R' ?_ ?_
 ·intro z loc' led' h' R1
  obtain ⟨m', news', lw', X'⟩ := R1
  have u := X'.ups
  have nw' : ∀ p ∈ news' ++ ((fz ++ z) ++ lw'), h'.get? p.1 = some p.2 ∧ p.1 ≠ F'.L ∧ F'.h₀.get? p.1 = none := X'.nw
  have nd' : ((news' ++ ((fz ++ z) ++ lw')).map (·.1)).Nodup := X'.nd
  cases u with
  | cons u =>
   rename_i sl lw₂
   have pm : (news' ++ ((fz ++ z) ++ ((F.L, { oL with slots := sl }) :: lw₂))).Perm ((F.L, { oL with slots := sl }) :: (news' ++ ((fz ++ z) ++ lw₂))) := zPW _ _ _ _
   have nd2 := (pm.map (·.1)).nodup_iff.mp nd'
   rw [List.map_cons, List.nodup_cons] at nd2
   have hLn := (nw' _ (pm.mem_iff.mpr (.head _))).1
   have hid : ∀ p ∈ n2, (hideAll s₀.heap (all.map (·.1))).get? p.1 = some p.2 := fun p hp => hideAll_get _ (X.nw p (in2 p hp)).1 (nm2 p hp)
   have pm3 : (news' ++ n2 ++ ((fz ++ z) ++ lw₂)).Perm (n2 ++ (news' ++ ((fz ++ z) ++ lw₂))) := zLp _ _ _
   refine ⟨m, news' ++ n2, lw₂, ⟨⟨_, es, ep, hLn, hLd, hLk, hLf⟩, fun b o q => X'.fr.keep b o (stay b o q), X.fr.above⟩, fun p hp => ?_, X.loc.mono, ?_, ?_, X.ups.trans u⟩
   ·rcases List.mem_append.mp (pm3.mem_iff.mp hp) with hp | hp
    ·exact ⟨X'.fr.keep _ _ (hid p hp), (X.nw p (in2 p hp)).2⟩
    ·refine ⟨(nw' p (pm.mem_iff.mpr (.tail _ hp))).1, fun q => ?_, ?_⟩
     ·exact nd2.1 (List.mem_map.mpr ⟨p, hp, q⟩)
     ·cases q : F.h₀.get? p.1 with
      | none => rfl
      | some o =>
       have hz : (hideAll s₀.heap (all.map (·.1))).get? p.1 = none := (nw' p (pm.mem_iff.mpr (.tail _ hp))).2.2
       rw [stay _ _ q] at hz; cases hz
   ·have q1 : LedR w.params F.B (wa (⟨a1 ++ a2, fz⟩ : Wd) (⟨[], z⟩ : Wd)) a1 led' news' := by
     rw [eW]
     have := X'.led.mono (more := ⟨a2, []⟩)
     have ea1 : (wa (⟨a1, fz⟩ : Wd) (⟨[], z⟩ : Wd)).ads = a1 := List.append_nil a1
     rw [ea1] at this
     exact this
    have q2 := r2.mono (more := ⟨[], z⟩)
    have ea2 : (wa (⟨a1 ++ a2, fz⟩ : Wd) (⟨[], z⟩ : Wd)).ads = a1 ++ a2 := List.append_nil _
    rw [ea2]
    exact q1.append q2
   ·refine (pm3.map (·.1)).nodup_iff.mpr ?_
    rw [List.map_append, List.nodup_append]
    refine ⟨ndX'.1, nd2.2, fun a ha b hb e => ?_⟩
    obtain ⟨p, hp, rfl⟩ := List.mem_map.mp ha
    obtain ⟨q, hq, rfl⟩ := List.mem_map.mp hb
    have z1 := hid p hp
    have z2 : (hideAll s₀.heap (all.map (·.1))).get? q.1 = none := (nw' q (pm.mem_iff.mpr (.tail _ hq))).2.2
    rw [← e, z1] at z2; cases z2
 ·intro z y v d
  rw [eW]; exact d.mono
theorem zFc {n : Nat} : ∀ {a b : List (Str × SV)}, okF n a → okF n b → okF n (a ++ b)
 | [], _, _, h => h
 | (_, _) :: _, _, h, h' => ⟨h.1, zFc h.2 h'⟩
theorem zLu {n : Nat} : ∀ {xs : List Str} {svs : List SV}, (∀ x ∈ svs, okV n x) → okF n (zipS xs svs)
 | [], _, _ => trivial
 | _ :: _, [], _ => trivial
 | _ :: _, _ :: _, h => ⟨h _ (.head _), zLu fun x hx => h x (.tail _ hx)⟩
theorem zOE {n : Nat} (v : Value) : okV n (toSV v) := by cases v <;> trivial
theorem zJU {n : Nat} : ∀ more : List (Str × Value), okF n (zBh more)
 | [] => trivial
 | (_, v) :: r => ⟨zOE v, zJU r⟩
theorem zEZ {α : Type} {x : Str} : ∀ {l : List (Str × α)}, x ∈ l.map (·.1) → (lk x l).isSome = true
 | (y, a) :: r, h => by
  unfold lk
  cases q : Fast.sEq x y with
  | true => rfl
  | false =>
   rw [List.map_cons, List.mem_cons] at h
   exact zEZ (h.resolve_left (zAZ q))
theorem zFP : ∀ (xs : List Str) (vs : List SV), xs.length = vs.length → (zipS xs vs).map (·.1) = xs
 | [], [], _ => rfl
 | x :: xs, v :: vs, h => by
  show x :: (zipS xs vs).map (·.1) = _
  rw [zFP xs vs (by simpa using h)]
 | [], _ :: _, h => by simp at h
 | _ :: _, [], h => by simp at h
theorem zEC : ∀ more : List (Str × Value), (zBh more).map (·.1) = more.map (·.1)
 | [] => rfl
 | (x, v) :: r => by show x :: (zBh r).map (·.1) = _; rw [zEC r]; rfl
theorem zIZ {B : Heap} {G : Wd} {xs : List Str} {svs : List SV} {vs : List Value} {more : List (Str × Value)} {x : Str} (D : DenL B G svs vs) (hl : xs.length = svs.length) (h : x ∈ (zipV xs vs ++ more).map (·.1)) : (lk x (zipS xs svs ++ zBh more)).isSome = true := by
 refine zEZ ?_
 rw [List.map_append, zBJ xs vs (hl.trans D.length)] at h
 rw [List.map_append, zFP xs svs hl, zEC]
 exact h
theorem zDD {svs : List SV} {vs : List Value} {e : FnE} {A : Around} {Rr : Result → Shared → Prop} {led₁ led₂ : List SO} (fo : FnOk C.K e) (ok : FmOk C F)
  (hA : C.known = true → A.frames = some F.stk) (hh : A.handled = none) (hd : A.depth < recursionLimit) (R : Rep w F ads st s.heap) (D : DenL F.B ads svs vs) (hlen : vs.length = e.na)
  (hled : st.led = led₁ ++ led₂) (hol : okL led₁.length led₁) (hov : ∀ x ∈ svs, okV led₁.length x) (hcn : e.cells.Nodup)
  (h : ∀ (F' : Fm) (W Wc : Wd) (h₁ : Heap) (t : Nat), FmOk C F' → F'.A = A.deeper F'.env → F'.sc = e.scope → F'.B = F.B → (F'.stk = F'.env :: F.stk ∧ F'.quiet = F.quiet ∧ F'.env.code = e.cd) → Wc.fz = [] → W.ads.length = led₁.length → Rep w F' (wa W Wc) (zBu e.cells (zipS e.names svs ++ zBh e.more) led₁) h₁ →
   (∀ z loc' led' h', Rep w F' (wa W (⟨[], z⟩ : Wd)) ⟨loc', led'⟩ h' → Rep w F (wa ads (⟨[], z⟩ : Wd)) { loc := st.loc, led := led' ++ led₂ } h') →
   (∀ z y v, Den F.B (wa W (⟨[], z⟩ : Wd)) y v → Den F.B (wa ads (⟨[], z⟩ : Wd)) y v) →
   wpAny (model prog w) F'.A (execs e.body F'.env) (fun f s' => Rr (.ok (.ret (match f with | .ret v => v | _ => .none))) s')
    (fun x s' => wpAny (model prog w) F'.A (leaving F'.env x) (fun _ s'' => Rr (.error x) s'') (fun x' s'' => Rr (.error x') s'') s') { s with heap := h₁, toks := t }) :
  codeAny (model prog w) A (.call (.ref e.fa) ⟨vs, []⟩) Rr s := by
 refine zHl (loc₀ := zipS e.names svs ++ zBh e.more) fo.to0 ok hA hh hd R hled hol (zFc (zLu hov) (zJU _)) hcn (fun oc od osl fd g1 XK M A E Q hQ => ?_) h
 obtain ⟨oc', od', osl', fd', g1', g2, g3, g4, g5, g6, g7⟩ := fo.at_
 rw [g1] at g1'
 cases g1'
 refine g7 s vs XK hlen M A E Q (hQ s.heap _ (fun _ _ e => e) (fun x hx => fo.loc x.1 ?_) ?_ (fun x sv hx => zMH (fun y hy => fo.more y hy F.B ads) D hx) fun x hx _ => zIZ D (by rw [fo.len, ← hlen, D.length]) hx)
 ·rcases List.mem_append.mp hx with q | q
  ·exact List.mem_append_left _ (zBJ e.names vs (by rw [fo.len, hlen]) ▸ List.mem_map_of_mem q)
  ·exact List.mem_append_right _ (List.mem_map_of_mem q)
 ·rw [List.map_append, zBJ e.names vs (by rw [fo.len, hlen])]; exact fo.nd
theorem zKx {w : World} {F' : Fm} {W Wc : Wd} {loc₀ : List (Str × SV)} {led₁ : List SO} {h₁ : Heap} (ez : Wc.fz = []) (eL : W.ads.length = led₁.length) (R : Rep w F' (wa W Wc) (zBu [] loc₀ led₁) h₁) : Rep w F' W ⟨loc₀, led₁⟩ h₁ := by
 have h1 := zBI R
 rw [Wd.ads_append, List.length_append, eL] at h1
 have h2 : (zBu [] loc₀ led₁).led.length = led₁.length := rfl
 rw [h2] at h1
 obtain ⟨a, z⟩ := Wc
 have e1 : a = [] := List.eq_nil_of_length_eq_zero (by dsimp only at h1; lia)
 have e2 : z = [] := ez
 subst e1 e2
 have e3 : (wa W (⟨[], []⟩ : Wd)) = W := Wd.append_nil W
 rw [e3] at R
 exact R
noncomputable def SubK (st : St) (led₁ led₂ : List SO) (k : Kt) : Kt := fun r st' => ∃ x y led', (r = .ret x ∨ (r = .next ∧ x = .none)) ∧ SvT led₁.length st'.led x y ∧ SosT led₁.length st'.led (st'.led.take led₁.length) led' ∧ k (.v y) { loc := st.loc, led := led' ++ led₂ }
theorem zHw {svs : List SV} {vs : List Value} {e : FnE} {A : Around} {k : Kt} {Q : CR → Shared → Prop} {Rr : Result → Shared → Prop} {led₁ led₂ : List SO} (fo : FnOk C.K e) (ok : FmOk C F)
  (hA : C.known = true → A.frames = some F.stk) (hh : A.handled = none) (hd : A.depth < recursionLimit) (R : Rep w F ads st s.heap) (D : DenL F.B ads svs vs) (hlen : vs.length = e.na)
  (hled : st.led = led₁ ++ led₂) (hol : okL led₁.length led₁) (hov : ∀ x ∈ svs, okV led₁.length x) (hcn : e.cells.Nodup)
  (h : ∀ (F' : Fm) (W : Wd) (E' : Value → Shared → Prop) (Q' : CR → Shared → Prop) (s₁ : Shared), FmOk C F' → F'.A = A.deeper F'.env → F'.sc = e.scope → F'.stk = F'.env :: F.stk → Rep w F' W (zBu e.cells (zipS e.names svs ++ zBh e.more) led₁) s₁.heap →
   Then w F' W s₁ (SubK st led₁ led₂ k) Q' → wpAny (model prog w) F'.A (execs e.body F'.env) (fun f s' => Q' (.fl f) s') E' s₁)
  (T : Then w F ads s k Q) (hR : ∀ v s', Q (.v v) s' → Rr (.ok (.ret v)) s') :
  codeAny (model prog w) A (.call (.ref e.fa) ⟨vs, []⟩) Rr s := by
 refine zDD fo ok hA hh hd R D hlen hled hol hov hcn fun F' W Wc h₁ t ok' eA eS eB eT eZ eL R' back bv => ?_
 refine h F' (wa W Wc) _ (fun c s' => match c with
   | .fl f => Rr (.ok (.ret (match f with | .ret v => v | _ => .none))) s'
   | _ => False) _ ok' eA eS eT.1 R' ?_
 intro r st' more c s' hk R1 x dr
 obtain ⟨y, y', led', hr, sv, so, hk⟩ := hk
 rw [← eL] at sv so
 rw [Wd.append_assoc] at R1 dr
 obtain ⟨z, R2, den⟩ := zEO (st' := ⟨[], led'⟩) ok' R1 ⟨(fun x y h => nomatch h), so⟩
 have x' : Nx F s s' := (Nx.mk' s h₁ t).trans (show NxB F.quiet _ s' by rw [← eT.2.1]; exact x)
 have fin : ∀ u, Den F'.B (wa W (wa Wc more)) y u → Q (.v u) s' := fun u du => by
  refine T (.v y') _ ⟨[], z⟩ (.v u) s' hk (back z _ _ _ R2) x' ?_
  have := den y y' u sv du
  rw [eB] at this
  exact bv z _ _ this
 rcases hr with rfl | ⟨rfl, rfl⟩
 ·cases c with
  | fl fl => cases fl with
   | ret u => exact hR _ _ (fin u dr)
   | _ => exact dr.elim
  | _ => exact dr.elim
 ·cases c with
  | fl fl => cases fl with
   | next => exact hR _ _ (fin .none rfl)
   | _ => exact dr.elim
  | _ => exact dr.elim
theorem zBd {n : Nat} {svs : List SV} {vs : List Value} {e : FnE} {A : Around} {k : Kt} {Q : CR → Shared → Prop} {Rr : Result → Shared → Prop} {led₁ led₂ : List SO} (ih : zBE w C n) (fo : FnOk C.K e) (ok : FmOk C F)
  (hA : C.known = true → A.frames = some F.stk) (hh : A.handled = none) (hd : A.depth + 1 + n < recursionLimit) (hu : A.units + 3 + 8 * n < cLine) (R : Rep w F ads st s.heap) (D : DenL F.B ads svs vs) (hlen : vs.length = e.na)
  (hled : st.led = led₁ ++ led₂) (hol : okL led₁.length led₁) (hov : ∀ x ∈ svs, okV led₁.length x) (hcn : e.cells.Nodup)
  (h : ev C n e.scope.names (.sts e.body) (zBu e.cells (zipS e.names svs ++ zBh e.more) led₁) (SubK st led₁ led₂ k))
  (T : Then w F ads s k Q) (hR : ∀ v s', Q (.v v) s' → Rr (.ok (.ret v)) s') :
  codeAny (model prog w) A (.call (.ref e.fa) ⟨vs, []⟩) Rr s :=
 zHw fo ok hA hh (by lia) R D hlen hled hol hov hcn (fun F' W E' Q' s₁ ok' eA eS _ R' T' => ih F' E' (.sts e.body) _ _ W s₁ Q' ok' (by rw [eA]; show A.depth + 1 + n < _; lia) (by rw [eA]; show A.units + 3 + 8 * n < _; lia) (by rw [eS]; exact h) R' T') T hR
theorem zKz {h' : Heap} : ∀ {lw : List (Addr × Obj)}, (∀ p ∈ lw, ∃ sl, h'.get? p.1 = some { p.2 with slots := sl }) → ∃ lw', Ups lw lw' ∧ ∀ p ∈ lw', h'.get? p.1 = some p.2
 | [], _ => ⟨[], .nil, fun _ h => by cases h⟩
 | (a, o) :: r, hp => by
  obtain ⟨sl, e⟩ := hp (a, o) (.head _)
  obtain ⟨lw', u, q⟩ := zKz (fun p h => hp p (.tail _ h))
  exact ⟨(a, { o with slots := sl }) :: lw', .cons u, fun p h => by
   rcases List.mem_cons.mp h with rfl | h
   ·exact e
   ·exact q p h⟩
theorem zCE {h base : Heap} : ∀ {l : List Env}, (∀ env ∈ l, env.scope.kind ≠ .module ∧ ∃ L o, env.frame = some L ∧ base.get? L = none ∧ h.get? L = some o ∧ ∀ vs, o.data ≠ .fields vs) → h.FunFrames base l
 | [], _ => trivial
 | env :: r, q => ⟨(q env (.head _)).1, (q env (.head _)).2, zCE fun x hx => q x (.tail _ hx)⟩
theorem zLg {h : Heap} {e : Addr} {cls : Value} {args : List Value} {E : Value → Shared → Prop} {Q : Unit → Shared → Prop} {M : Model} {outer : List Env} (hst : F.stk = F.env :: outer) (hkn : C.known = true) (ok : FmOk C F) (R : Rep w F ads st h) (hx : Heap.MadeExcOf h s.heap e cls args)
  (hQ : ∀ h', Rep w F ads st h' → (∃ o, h'.get? e = some o ∧ o.cls = cls) → Q () { s with heap := h' }) : wpAny M F.A (leaving F.env (.ref e)) Q E s := by
 obtain ⟨m, news, lw, X⟩ := R
 obtain ⟨oL, es, ep, hL, hLd, hLk, hLf⟩ := X.fr.ns
 have lowk := ok.low.ups X.ups
 have inlw : ∀ p ∈ lw, p ∈ news ++ (ads.fz ++ lw) := fun p hp => List.mem_append_right _ (List.mem_append_right _ hp)
 let keys : List Addr := F.L :: lw.map (·.1)
 have hl : h.FunFrames (hideAll h keys) F.stk := zCE fun env he => by
  obtain ⟨a1, L', a2, a3⟩ := lowk.env env he
  rcases a3 with rfl | a3
  ·exact ⟨a1, F.L, oL, a2, hideAll_none _ (.head _), hL, fun vs q => by rw [hLd] at q; cases q⟩
  ·obtain ⟨p, hp, rfl⟩ := List.mem_map.mp a3
   exact ⟨a1, p.1, p.2, a2, hideAll_none _ (.tail _ a3), (X.nw p (inlw p hp)).1, lowk.dat p hp⟩
 obtain ⟨_, L0, hf0, _⟩ := ok.low.env F.env (by rw [hst]; exact .head _)
 rw [hst] at hl
 refine wpAny_leaves_madeW (hst ▸ ok.stack hkn) hf0 (fun b o q => of_hideAll _ q) hl hx fun h' t x1 x2 x3 x4 => ?_
 have stays : ∀ b o, h.get? b = some o → b ∉ keys → h'.get? b = some o := fun b o q nb => x1.1 b o (hideAll_get _ q nb)
 have upto : h.UpToSlots h' := (Heap.UpToSlots.of_keeps hx.keeps).trans x4
 refine hQ h' ?_ x1.there
 obtain ⟨lw', u, hu⟩ := zKz (h' := h') (lw := lw) fun p hp => upto p.1 p.2 (X.nw p (inlw p hp)).1 (lowk.dat p hp)
 have pmA : (news ++ (ads.fz ++ lw)).Perm (lw ++ (news ++ ads.fz)) := by
  rw [← List.append_assoc]; exact List.perm_append_comm
 have ndP := (pmA.map (·.1)).nodup_iff.mp X.nd
 rw [List.map_append] at ndP
 have ndP' := List.nodup_append.mp ndP
 have nmN : ∀ p ∈ news ++ ads.fz, p.1 ∉ keys := fun p hp q => by
  rcases List.mem_cons.mp q with q | q
  ·exact (X.nw p (pmA.mem_iff.mpr (List.mem_append_right _ hp))).2.1 q
  ·exact ndP'.2.2 _ q _ (List.mem_map_of_mem hp) rfl
 refine ⟨m, news, lw', ⟨upto.ns X.fr.ns, fun b o q => stays b o (X.fr.keep b o q) fun hm => ?_, X.fr.above⟩, fun p hp => ?_, X.loc, X.led, ?_, X.ups.trans u⟩
 ·rcases List.mem_cons.mp hm with rfl | hm
  ·exact absurd (Heap.lt_size q) (Nat.not_lt.mpr X.fr.above)
  ·obtain ⟨p, hp, rfl⟩ := List.mem_map.mp hm
   rw [(X.nw p (inlw p hp)).2.2] at q; cases q
 ·have hp' : p ∈ news ++ ads.fz ∨ p ∈ lw' := by
   rw [← List.append_assoc] at hp; exact List.mem_append.mp hp
  rcases hp' with q | q
  ·have z := X.nw p (pmA.mem_iff.mpr (List.mem_append_right _ q))
   exact ⟨stays _ _ z.1 (nmN p q), z.2⟩
  ·have : p.1 ∈ lw.map (·.1) := u.keys ▸ List.mem_map_of_mem q
   obtain ⟨p', hp', e'⟩ := List.mem_map.mp this
   have z' := X.nw p' (inlw p' hp')
   rw [e'] at z'
   exact ⟨hu p q, z'.2⟩
 ·have e1 : (news ++ (ads.fz ++ lw')).map (·.1) = (news ++ (ads.fz ++ lw)).map (·.1) := by
   simp only [List.map_append, u.keys]
  rw [e1]; exact X.nd
end
set_option backward.match.sparseCases false
set_option backward.match.sparseCases true
section
variable {w : World} {C : Cf} {s : Shared}
theorem zHk {e : FnE} {A : Around} {Rr : Result → Shared → Prop} {svs : List SV} {vs : List Value} (q : Bool) (hid : List (Addr × Obj)) (W : Wd) (led : List SO) (fo : FnOk C.K e) (hcell : ∀ x ∈ e.scope.names, x.2 ≠ .cell)
  (hw : ∀ p ∈ hid, s.heap.get? p.1 = some p.2) (nd : (hid.map (·.1)).Nodup) (hz : W.fz = []) (hled : LedR w.params (hideAll s.heap (hid.map (·.1))) W W.ads led hid)
  (X : C.K.In (hideAll s.heap (hid.map (·.1)))) (G : GlobOk (hideAll s.heap (hid.map (·.1)))) (hA : C.known = true → A.frames = some [] ∧ q = false) (hh : A.handled = none) (hd : A.depth < recursionLimit)
  (D : DenL (hideAll s.heap (hid.map (·.1))) W svs vs) (hlen : vs.length = e.na)
  (h : ∀ (F' : Fm) (h₁ : Heap) (t : Nat), FmOk C F' → F'.A = A.deeper F'.env → F'.sc = e.scope → F'.h₀ = hideAll s.heap (hid.map (·.1)) → F'.B = F'.h₀ → F'.quiet = q → Rep w F' W ⟨zipS e.names svs ++ zBh e.more, led⟩ h₁ →
   wpAny (model prog w) F'.A (execs e.body F'.env) (fun f s' => Rr (.ok (.ret (match f with | .ret v => v | _ => .none))) s')
    (fun x s' => wpAny (model prog w) F'.A (leaving F'.env x) (fun _ s'' => Rr (.error x) s'') (fun x' s'' => Rr (.error x') s'') s') { s with heap := h₁, toks := t }) :
  codeAny (model prog w) A (.call (.ref e.fa) ⟨vs, []⟩) Rr s := by
 have nocell : ∀ x, e.scope.names.lookup x = some .cell → (NameKind.cell ≠ NameKind.cell) := fun x hx => hcell _ (mem_of_lookup hx)
 have floc : ∀ x ∈ e.names ++ e.more.map (·.1), e.scope.names.lookup x = some .local := fun x hx => (fo.loc x hx).resolve_right fun q => nocell x q.1 rfl
 obtain ⟨oc, od, osl, fd, g1, g2, g3, g4, g5, g6, g7⟩ := fo.at_
 have sub : ∀ b o, (hideAll s.heap (hid.map (·.1))).get? b = some o → s.heap.get? b = some o := fun b o e => of_hideAll _ e
 have XK : C.K.In s.heap := X.keeps sub
 have GK : GlobOk s.heap := G.keeps sub
 refine (codeAny_call_def (body := e.body) (binds := zipV e.names vs ++ e.more) (by omega) (XK _ _ g1) rfl GK.lim (by rw [g5, g6]; exact codeRec_of XK fo.code) g2 (g7 s vs XK hlen)
  (by rw [g3]; exact hcell) (by
   rw [g3]
   intro x hx
   refine floc x.1 ?_
   rcases List.mem_append.mp hx with q | q
   ·exact List.mem_append_left _ (zBJ e.names vs (by rw [fo.len, hlen]) ▸ List.mem_map_of_mem q)
   ·exact List.mem_append_right _ (List.mem_map_of_mem q)) (fun h₁ hns hk₁ => ?_) (by rw [g3]; exact fo.co) (by rw [g3]; exact fo.gen) (by rw [g3]; exact fo.kind))
 rw [g4]
 let en : Env := envOf e.qual e.scope s.heap.objs.size e.fa e.cd
 let F' : Fm := ⟨hideAll s.heap (hid.map (·.1)), hideAll s.heap (hid.map (·.1)), s.heap.objs.size, en, A.deeper en, [en], [], q⟩
 have low' : LowOk [en] s.heap.objs.size [] := ⟨fun env he => by
  rw [List.mem_singleton.mp he]
  exact ⟨by show e.scope.kind ≠ _; rw [fo.kind]; decide, s.heap.objs.size, rfl, .inl rfl⟩, fun p hp => nomatch hp⟩
 have ok' : FmOk C F' := ⟨X, G, fun b o e => e, fo.kind, hh, fun k => Around.frames_deeper (hA k).1, fun k => (hA k).2, low', rfl, rfl, rfl, fun _ _ => rfl, fun x hx => absurd rfl (nocell x hx)⟩
 have nd' : ((zipV e.names vs ++ e.more).map (·.1)).Nodup := by
  rw [List.map_append, zBJ e.names vs (by rw [fo.len, hlen])]; exact fo.nd
 have R' : Rep w F' W ⟨zipS e.names svs ++ zBh e.more, led⟩ h₁ := by
  refine ⟨_, hid, [], ⟨hns, fun b o q => hk₁ b o (of_hideAll _ q), Nat.le_of_eq (hideAll_size _ _)⟩, fun p hp => ?_, ?_, hled, ?_, Ups.refl _⟩
  ·rw [hz, List.nil_append, List.append_nil] at hp
   exact ⟨hk₁ _ _ (hw p hp), Nat.ne_of_lt (Heap.lt_size (hw p hp)), hideAll_none _ (List.mem_map_of_mem hp)⟩
  ·intro x sv hx
   obtain ⟨v, a, b⟩ := zMH (fun y hy => fo.more y hy _ W) D hx
   exact ⟨v, zBN nd' a, b⟩
  ·rw [hz, List.nil_append, List.append_nil]; exact nd
 exact h F' h₁ _ ok' rfl rfl rfl rfl rfl R'
end
set_option backward.match.sparseCases false
noncomputable def stAt : Nat → List Stmt → Stmt
 | 0, s :: _ => s
 | n + 1, _ :: r => stAt n r
 | _, [] => .Pass default
noncomputable def zAJ : Stmt → List Stmt
 | .ClassDef _ _ _ b _ _ _ _ _ _ _ => b
 | _ => []
noncomputable def zAG : Stmt → List Stmt
 | .FunctionDef _ _ b _ _ _ _ _ _ _ => b
 | _ => []
noncomputable def zAB : Stmt → Scope
 | .FunctionDef _ _ _ _ _ _ s _ _ _ => s
 | _ => default
noncomputable def zBD : Stmt → Arguments
 | .FunctionDef _ a _ _ _ _ _ _ _ _ => a
 | _ => default
noncomputable def fnOf (name qual : Str) (ps : Arguments) (b : List Stmt) (sc : Scope) (df kdf doc md : Value) (ann : Option Addr) (cd ct : Value) : FuncData :=
 { name := name, qualname := qual, params := ps, body := .stmts b, scope := sc, globals := mainGlobals, closure := [], defaults := df, kwdefaults := kdf, doc := doc, pyModule := md, annotations := ann, code := cd, closureTuple := ct, builtins := builtinsNs }
noncomputable def o3 (P : Params) : Obj := ⟨(.type "dict"), none, (.dict (List.toArray [⟨PyData.keyHash P "__name__", .str "__name__" 165, (.str "law_mq0411_02" 1274)⟩, ⟨PyData.keyHash P "__doc__", .str "__doc__" 166, .none⟩, ⟨PyData.keyHash P "__package__", .str "__package__" 167, .none⟩, ⟨PyData.keyHash P "__loader__", .str "__loader__" 168, (.builtin "__main__.__loader__#opaque")⟩, ⟨PyData.keyHash P "__spec__", .str "__spec__" 169, .none⟩, ⟨PyData.keyHash P "__annotations__", .str "__annotations__" 170, (.ref 6)⟩, ⟨PyData.keyHash P "__builtins__", .str "__builtins__" 171, (.ref 4)⟩, ⟨PyData.keyHash P "__file__", .str "__file__" 173, (.str "/claim/cut.py" 172)⟩, ⟨PyData.keyHash P "__cached__", .str "__cached__" 174, .none⟩, ⟨PyData.keyHash P "_sre", .str "_sre" 275, (.ref 12)⟩, ⟨PyData.keyHash P "deque", .str "deque" 317, (.type "collections.deque")⟩, ⟨PyData.keyHash P "_wall", .str "_wall" 330, (.ref 44)⟩, ⟨PyData.keyHash P "parse_keqv_list", .str "parse_keqv_list" 343, (.ref 51)⟩, ⟨PyData.keyHash P "parse_http_list", .str "parse_http_list" 349, (.ref 56)⟩, ⟨PyData.keyHash P "_twin_re_1", .str "_twin_re_1" 389, (.ref 61)⟩, ⟨PyData.keyHash P "_whence", .str "_whence" 399, (.ref 68)⟩, ⟨PyData.keyHash P "_index", .str "_index" 407, (.ref 75)⟩, ⟨PyData.keyHash P "UnsupportedOperation", .str "UnsupportedOperation" 429, (.ref 85)⟩, ⟨PyData.keyHash P "IOBase", .str "IOBase" 461, (.ref 105)⟩, ⟨PyData.keyHash P "BufferedIOBase", .str "BufferedIOBase" 479, (.ref 120)⟩, ⟨PyData.keyHash P "TextIOBase", .str "TextIOBase" 497, (.ref 132)⟩, ⟨PyData.keyHash P "BytesIO", .str "BytesIO" 759, (.ref 362)⟩, ⟨PyData.keyHash P "StringIO", .str "StringIO" 1046, (.ref 609)⟩, ⟨PyData.keyHash P "_kind", .str "_kind" 1057, (.ref 618)⟩, ⟨PyData.keyHash P "_fspath", .str "_fspath" 1066, (.ref 625)⟩, ⟨PyData.keyHash P "_check_arg_types", .str "_check_arg_types" 1076, (.ref 632)⟩, ⟨PyData.keyHash P "isabs", .str "isabs" 1083, (.ref 639)⟩, ⟨PyData.keyHash P "join", .str "join" 1094, (.ref 763)⟩, ⟨PyData.keyHash P "join_path", .str "join_path" 1095, (.ref 646)⟩, ⟨PyData.keyHash P "dirname", .str "dirname" 1105, (.ref 653)⟩, ⟨PyData.keyHash P "shlex", .str "shlex" 1246, (.ref 744)⟩, ⟨PyData.keyHash P "split", .str "split" 1256, (.ref 756)⟩, ⟨PyData.keyHash P "join_shlex", .str "join_shlex" 1264, (.ref 763)⟩, ⟨PyData.keyHash P "_find_unsafe", .str "_find_unsafe" 1266, (.ref 764)⟩, ⟨PyData.keyHash P "quote", .str "quote" 1273, (.ref 771)⟩, ⟨PyData.keyHash P "_law_marked", .str "_law_marked" 1281, (.ref 776)⟩, ⟨PyData.keyHash P "_law_setting", .str "_law_setting" 1287, (.ref 781)⟩, ⟨PyData.keyHash P "_law_due", .str "_law_due" 1293, (.ref 786)⟩, ⟨PyData.keyHash P "_law_told", .str "_law_told" 1300, (.ref 793)⟩, ⟨PyData.keyHash P "_law_agrees", .str "_law_agrees" 1306, (.ref 798)⟩, ⟨PyData.keyHash P "law", .str "law" 1312, (.ref 803)⟩]) 41), #[]⟩
noncomputable def o4 (P : Params) : Obj := ⟨(.type "module"), (some 0), .plain, #[]⟩
noncomputable def o765 (P : Params) : Obj := ⟨(.type "code"), none, (.fields #[(.str "parse_keqv_list" 333), (.str "parse_keqv_list" 334), (.str "/claim/cut.py" 335), (.int (7) 0), (.int (1) 0), (.int (0) 0), (.int (0) 0), (.int (3) 0), (.ref 45), (.bool true), (.int (318) 0), (.ref 46), .none, (.ref 47), (.ref 48), (.ref 49), (.int (341) 0), (.int (7) 0), (.str "/claim/cut.py" 342)]), #[]⟩
noncomputable def o766 (P : Params) : Obj := ⟨(.type "function"), none, (.func (fnOf "parse_keqv_list" "parse_keqv_list" (zBD (stAt 4 Challenge.pw_mq0411_02.main.body)) (zAG (stAt 4 Challenge.pw_mq0411_02.main.body)) (zAB (stAt 4 Challenge.pw_mq0411_02.main.body)) .none .none .none (.str "cpy313.urllib.request" 331) none (.ref 50) .none)), #[]⟩
noncomputable def o770 (P : Params) : Obj := ⟨(.type "code"), none, (.fields #[(.str "parse_http_list" 344), (.str "parse_http_list" 345), (.str "/claim/cut.py" 346), (.int (15) 0), (.int (1) 0), (.int (0) 0), (.int (0) 0), (.int (3) 0), (.ref 52), (.bool true), (.int (318) 0), (.ref 53), .none, .none, .none, (.ref 54), (.int (347) 0), (.int (15) 0), (.str "/claim/cut.py" 348)]), #[]⟩
noncomputable def o771 (P : Params) : Obj := ⟨(.type "function"), none, (.func (fnOf "parse_http_list" "parse_http_list" (zBD (stAt 5 Challenge.pw_mq0411_02.main.body)) (zAG (stAt 5 Challenge.pw_mq0411_02.main.body)) (zAB (stAt 5 Challenge.pw_mq0411_02.main.body)) .none .none .none (.str "cpy313.urllib.request" 331) none (.ref 55) .none)), #[]⟩
noncomputable def o48 (P : Params) : Obj := ⟨(.type "tuple"), none, (.seq #[(.int (14) 0), (.int (17) 0), (.int (4) 0), (.int (1) 0), (.int (1) 0), (.int (21) 0), (.int (9) 0), (.int (0) 0), (.int (604043296) 0), (.int (1) 0), (.int (0) 0), (.int (0) 0), (.int (0) 0), (.int (0) 0), (.int (0) 0), (.int (8) 0), (.int (4) 0), (.int (0) 0), (.int (13) 0), (.int (14) 0), (.int (21) 0), (.int (9) 0), (.int (0) 0), (.int (604043296) 0), (.int (1) 0), (.int (0) 0), (.int (0) 0), (.int (0) 0), (.int (0) 0), (.int (0) 0), (.int (8) 0), (.int (4) 0), (.int (0) 0), (.int (1) 0)] 0), #[]⟩
noncomputable def o49 (P : Params) : Obj := ⟨(.type "re.Pattern"), none, (.fields #[(.str "[^\\w@%+=:,./-]" 351), (.int (256) 388), (.int (0) 0), .none, .none, (.ref 60), (.int (0) 0)]), #[]⟩
noncomputable def o62 (P : Params) : Obj := ⟨(.type "code"), none, (.fields #[(.str "_index" 400), (.str "_index" 401), (.str "/claim/cut.py" 402), (.int (49) 0), (.int (2) 0), (.int (0) 0), (.int (0) 0), (.int (3) 0), (.ref 69), (.bool true), (.int (318) 0), (.ref 70), .none, (.ref 71), (.ref 72), (.ref 73), (.int (405) 0), (.int (49) 0), (.str "/claim/cut.py" 406)]), #[]⟩
noncomputable def o63 (P : Params) : Obj := ⟨(.type "function"), none, (.func (fnOf "_index" "_index" (zBD (stAt 9 Challenge.pw_mq0411_02.main.body)) (zAG (stAt 9 Challenge.pw_mq0411_02.main.body)) (zAB (stAt 9 Challenge.pw_mq0411_02.main.body)) .none .none .none (.str "io" 390) none (.ref 74) .none)), #[]⟩
noncomputable def o89 (P : Params) : Obj := ⟨(.type "code"), none, (.fields #[(.str "__new__" 444), (.str "IOBase.__new__" 445), (.str "/claim/cut.py" 446), (.int (61) 0), (.int (1) 0), (.int (1) 0), (.int (0) 0), (.int (15) 0), (.ref 96), (.bool true), (.int (318) 0), (.ref 97), .none, (.ref 98), (.ref 99), (.ref 100), (.int (450) 0), (.int (61) 0), (.str "/claim/cut.py" 451)]), #[]⟩
noncomputable def o90 (P : Params) : Obj := ⟨(.type "function"), none, (.func (fnOf "__new__" "IOBase.__new__" (zBD (stAt 1 (zAJ (stAt 11 Challenge.pw_mq0411_02.main.body)))) (zAG (stAt 1 (zAJ (stAt 11 Challenge.pw_mq0411_02.main.body)))) (zAB (stAt 1 (zAJ (stAt 11 Challenge.pw_mq0411_02.main.body)))) .none .none .none (.str "io" 390) none (.ref 101) .none)), #[]⟩
noncomputable def o92 (P : Params) : Obj := ⟨(.type "dict"), none, (.dict (List.toArray [⟨PyData.keyHash P "__module__", .str "__module__" 437, (.str "io" 442)⟩, ⟨PyData.keyHash P "__firstlineno__", .str "__firstlineno__" 441, (.int (58) 440)⟩, ⟨PyData.keyHash P "__new__", .str "__new__" 452, (.ref 106)⟩, ⟨PyData.keyHash P "__static_attributes__", .str "__static_attributes__" 453, (.ref 103)⟩, ⟨PyData.keyHash P "__dict__", .str "__dict__" 456, (.ref 107)⟩, ⟨PyData.keyHash P "__weakref__", .str "__weakref__" 458, (.ref 108)⟩, ⟨PyData.keyHash P "__doc__", .str "__doc__" 459, .none⟩]) 4), #[]⟩
noncomputable def o93 (P : Params) : Obj := ⟨(.type "type"), none, (.cls { name := "IOBase", bases := [(.type "object")], mro := [(.ref 105), (.type "object")], ns := 104, qualname := "IOBase", hasDict := true, slotNames := [], subclasses := [(.ref 120), (.ref 132)], abstract := false, collection := none, hasDel := false }), #[none, none, (some (.str "IOBase" 430)), (some (.str "IOBase" 438)), (some .none), (some (.bool true))]⟩
noncomputable def o94 (P : Params) : Obj := ⟨(.type "staticmethod"), none, (.fields #[(.ref 102)]), #[]⟩
noncomputable def o119 (P : Params) : Obj := ⟨(.type "dict"), none, (.dict (List.toArray [⟨PyData.keyHash P "__module__", .str "__module__" 487, (.str "io" 492)⟩, ⟨PyData.keyHash P "__firstlineno__", .str "__firstlineno__" 491, (.int (67) 490)⟩, ⟨PyData.keyHash P "__static_attributes__", .str "__static_attributes__" 494, (.ref 130)⟩, ⟨PyData.keyHash P "__doc__", .str "__doc__" 495, .none⟩]) 2), #[]⟩
noncomputable def o120 (P : Params) : Obj := ⟨(.type "type"), none, (.cls { name := "TextIOBase", bases := [(.ref 105)], mro := [(.ref 132), (.ref 105), (.type "object")], ns := 131, qualname := "TextIOBase", hasDict := true, slotNames := [], subclasses := [(.ref 609)], abstract := false, collection := none, hasDel := false }), #[(some (.ref 123)), none, (some (.str "TextIOBase" 480)), (some (.str "TextIOBase" 488)), (some .none), (some (.bool true))]⟩
noncomputable def o350 (P : Params) : Obj := ⟨(.type "type"), none, (.cls { name := "BytesIO", bases := [(.ref 120)], mro := [(.ref 362), (.ref 120), (.ref 105), (.type "object")], ns := 361, qualname := "BytesIO", hasDict := true, slotNames := [], subclasses := [], abstract := false, collection := none, hasDel := false }), #[(some (.ref 135)), none, (some (.str "BytesIO" 498)), (some (.str "BytesIO" 506)), (some .none), (some (.bool true))]⟩
noncomputable def o360 (P : Params) : Obj := ⟨(.type "tuple"), none, (.seq #[(.str "" 774), (.str "\n" 775)] 0), #[]⟩
noncomputable def o366 (P : Params) : Obj := ⟨(.type "code"), none, (.fields #[(.str "__init__" 776), (.str "StringIO.__init__" 777), (.str "/claim/cut.py" 778), (.int (242) 0), (.int (3) 0), (.int (0) 0), (.int (0) 0), (.int (3) 0), (.ref 373), (.bool true), (.int (318) 0), (.ref 374), .none, (.ref 375), (.ref 376), (.ref 377), (.int (782) 0), (.int (242) 0), (.str "/claim/cut.py" 783)]), #[]⟩
noncomputable def o367 (P : Params) : Obj := ⟨(.type "function"), none, (.func (fnOf "__init__" "StringIO.__init__" (zBD (stAt 1 (zAJ (stAt 15 Challenge.pw_mq0411_02.main.body)))) (zAG (stAt 1 (zAJ (stAt 15 Challenge.pw_mq0411_02.main.body)))) (zAB (stAt 1 (zAJ (stAt 15 Challenge.pw_mq0411_02.main.body)))) (.ref 372) .none .none (.str "io" 390) none (.ref 378) .none)), #[]⟩
noncomputable def o373 (P : Params) : Obj := ⟨(.type "code"), none, (.fields #[(.str "__translated" 785), (.str "StringIO.__translated" 786), (.str "/claim/cut.py" 787), (.int (255) 0), (.int (2) 0), (.int (0) 0), (.int (0) 0), (.int (3) 0), (.ref 380), (.bool true), (.int (318) 0), (.ref 381), .none, (.ref 382), (.ref 383), (.ref 384), (.int (791) 0), (.int (255) 0), (.str "/claim/cut.py" 792)]), #[]⟩
noncomputable def o374 (P : Params) : Obj := ⟨(.type "function"), none, (.func (fnOf "__translated" "StringIO.__translated" (zBD (stAt 2 (zAJ (stAt 15 Challenge.pw_mq0411_02.main.body)))) (zAG (stAt 2 (zAJ (stAt 15 Challenge.pw_mq0411_02.main.body)))) (zAB (stAt 2 (zAJ (stAt 15 Challenge.pw_mq0411_02.main.body)))) .none .none .none (.str "io" 390) none (.ref 385) .none)), #[]⟩
noncomputable def o380 (P : Params) : Obj := ⟨(.type "code"), none, (.fields #[(.str "__check" 794), (.str "StringIO.__check" 795), (.str "/claim/cut.py" 796), (.int (263) 0), (.int (1) 0), (.int (0) 0), (.int (0) 0), (.int (3) 0), (.ref 387), (.bool true), (.int (318) 0), (.ref 388), .none, (.ref 389), (.ref 390), (.ref 391), (.int (798) 0), (.int (263) 0), (.str "/claim/cut.py" 799)]), #[]⟩
noncomputable def o381 (P : Params) : Obj := ⟨(.type "function"), none, (.func (fnOf "__check" "StringIO.__check" (zBD (stAt 3 (zAJ (stAt 15 Challenge.pw_mq0411_02.main.body)))) (zAG (stAt 3 (zAJ (stAt 15 Challenge.pw_mq0411_02.main.body)))) (zAB (stAt 3 (zAJ (stAt 15 Challenge.pw_mq0411_02.main.body)))) .none .none .none (.str "io" 390) none (.ref 392) .none)), #[]⟩
noncomputable def o536 (P : Params) : Obj := ⟨(.type "tuple"), none, (.seq #[(.int (-1) 967)] 0), #[]⟩
noncomputable def o542 (P : Params) : Obj := ⟨(.type "code"), none, (.fields #[(.str "read" 968), (.str "StringIO.read" 969), (.str "/claim/cut.py" 970), (.int (385) 0), (.int (2) 0), (.int (2) 0), (.int (0) 0), (.int (3) 0), (.ref 549), (.bool true), (.int (318) 0), (.ref 550), .none, (.ref 551), (.ref 552), (.ref 553), (.int (975) 0), (.int (385) 0), (.str "/claim/cut.py" 976)]), #[]⟩
noncomputable def o543 (P : Params) : Obj := ⟨(.type "function"), none, (.func (fnOf "read" "StringIO.read" (zBD (stAt 25 (zAJ (stAt 15 Challenge.pw_mq0411_02.main.body)))) (zAG (stAt 25 (zAJ (stAt 15 Challenge.pw_mq0411_02.main.body)))) (zAB (stAt 25 (zAJ (stAt 15 Challenge.pw_mq0411_02.main.body)))) (.ref 548) .none .none (.str "io" 390) none (.ref 554) .none)), #[]⟩
noncomputable def o565 (P : Params) : Obj := ⟨(.type "code"), none, (.fields #[(.str "__iter__" 998), (.str "StringIO.__iter__" 999), (.str "/claim/cut.py" 1000), (.int (409) 0), (.int (1) 0), (.int (0) 0), (.int (0) 0), (.int (3) 0), (.ref 572), (.bool true), (.int (318) 0), (.ref 573), .none, (.ref 574), (.ref 575), (.ref 576), (.int (1002) 0), (.int (409) 0), (.str "/claim/cut.py" 1003)]), #[]⟩
noncomputable def o566 (P : Params) : Obj := ⟨(.type "function"), none, (.func (fnOf "__iter__" "StringIO.__iter__" (zBD (stAt 28 (zAJ (stAt 15 Challenge.pw_mq0411_02.main.body)))) (zAG (stAt 28 (zAJ (stAt 15 Challenge.pw_mq0411_02.main.body)))) (zAB (stAt 28 (zAJ (stAt 15 Challenge.pw_mq0411_02.main.body)))) .none .none .none (.str "io" 390) none (.ref 577) .none)), #[]⟩
noncomputable def o572 (P : Params) : Obj := ⟨(.type "code"), none, (.fields #[(.str "__next__" 1005), (.str "StringIO.__next__" 1006), (.str "/claim/cut.py" 1007), (.int (413) 0), (.int (1) 0), (.int (0) 0), (.int (0) 0), (.int (3) 0), (.ref 579), (.bool true), (.int (318) 0), (.ref 580), .none, (.ref 581), (.ref 582), (.ref 583), (.int (1010) 0), (.int (413) 0), (.str "/claim/cut.py" 1011)]), #[]⟩
noncomputable def o573 (P : Params) : Obj := ⟨(.type "function"), none, (.func (fnOf "__next__" "StringIO.__next__" (zBD (stAt 29 (zAJ (stAt 15 Challenge.pw_mq0411_02.main.body)))) (zAG (stAt 29 (zAJ (stAt 15 Challenge.pw_mq0411_02.main.body)))) (zAB (stAt 29 (zAJ (stAt 15 Challenge.pw_mq0411_02.main.body)))) .none .none .none (.str "io" 390) none (.ref 584) .none)), #[]⟩
noncomputable def o596 (P : Params) : Obj := ⟨(.type "dict"), none, (.dict (List.toArray [⟨PyData.keyHash P "__module__", .str "__module__" 767, (.str "_io" 772)⟩, ⟨PyData.keyHash P "__firstlineno__", .str "__firstlineno__" 771, (.int (239) 770)⟩, ⟨PyData.keyHash P "__init__", .str "__init__" 784, (.ref 379)⟩, ⟨PyData.keyHash P "_StringIO__translated", .str "_StringIO__translated" 793, (.ref 386)⟩, ⟨PyData.keyHash P "_StringIO__check", .str "_StringIO__check" 800, (.ref 393)⟩, ⟨PyData.keyHash P "_StringIO__check_dot", .str "_StringIO__check_dot" 807, (.ref 400)⟩, ⟨PyData.keyHash P "_StringIO__line", .str "_StringIO__line" 822, (.ref 407)⟩, ⟨PyData.keyHash P "closed", .str "closed" 830, (.ref 415)⟩, ⟨PyData.keyHash P "line_buffering", .str "line_buffering" 838, (.ref 423)⟩, ⟨PyData.keyHash P "newlines", .str "newlines" 846, (.ref 431)⟩, ⟨PyData.keyHash P "encoding", .str "encoding" 854, (.ref 439)⟩, ⟨PyData.keyHash P "errors", .str "errors" 862, (.ref 447)⟩, ⟨PyData.keyHash P "close", .str "close" 869, (.ref 454)⟩, ⟨PyData.keyHash P "__enter__", .str "__enter__" 876, (.ref 461)⟩, ⟨PyData.keyHash P "__exit__", .str "__exit__" 884, (.ref 468)⟩, ⟨PyData.keyHash P "readable", .str "readable" 891, (.ref 475)⟩, ⟨PyData.keyHash P "writable", .str "writable" 898, (.ref 482)⟩, ⟨PyData.keyHash P "seekable", .str "seekable" 905, (.ref 489)⟩, ⟨PyData.keyHash P "isatty", .str "isatty" 912, (.ref 496)⟩, ⟨PyData.keyHash P "flush", .str "flush" 919, (.ref 503)⟩, ⟨PyData.keyHash P "fileno", .str "fileno" 926, (.ref 510)⟩, ⟨PyData.keyHash P "detach", .str "detach" 933, (.ref 517)⟩, ⟨PyData.keyHash P "getvalue", .str "getvalue" 940, (.ref 524)⟩, ⟨PyData.keyHash P "tell", .str "tell" 947, (.ref 531)⟩, ⟨PyData.keyHash P "seek", .str "seek" 957, (.ref 539)⟩, ⟨PyData.keyHash P "truncate", .str "truncate" 965, (.ref 547)⟩, ⟨PyData.keyHash P "read", .str "read" 977, (.ref 555)⟩, ⟨PyData.keyHash P "readline", .str "readline" 987, (.ref 563)⟩, ⟨PyData.keyHash P "readlines", .str "readlines" 997, (.ref 571)⟩, ⟨PyData.keyHash P "__iter__", .str "__iter__" 1004, (.ref 578)⟩, ⟨PyData.keyHash P "__next__", .str "__next__" 1012, (.ref 585)⟩, ⟨PyData.keyHash P "write", .str "write" 1024, (.ref 592)⟩, ⟨PyData.keyHash P "writelines", .str "writelines" 1032, (.ref 599)⟩, ⟨PyData.keyHash P "__repr__", .str "__repr__" 1039, (.ref 606)⟩, ⟨PyData.keyHash P "__static_attributes__", .str "__static_attributes__" 1043, (.ref 607)⟩, ⟨PyData.keyHash P "__doc__", .str "__doc__" 1044, .none⟩]) 2), #[]⟩
noncomputable def o597 (P : Params) : Obj := ⟨(.type "type"), none, (.cls { name := "StringIO", bases := [(.ref 132)], mro := [(.ref 609), (.ref 132), (.ref 105), (.type "object")], ns := 608, qualname := "StringIO", hasDict := true, slotNames := [], subclasses := [], abstract := false, collection := none, hasDel := false }), #[(some (.ref 365)), none, (some (.str "StringIO" 760)), (some (.str "StringIO" 768)), (some .none), (some (.bool true))]⟩
noncomputable def o649 (P : Params) : Obj := ⟨(.type "tuple"), none, (.seq #[.none, .none, (.bool false), (.bool false)] 0), #[]⟩
noncomputable def o655 (P : Params) : Obj := ⟨(.type "code"), none, (.fields #[(.str "__init__" 1120), (.str "shlex.__init__" 1121), (.str "/claim/cut.py" 1122), (.int (511) 0), (.int (5) 0), (.int (0) 0), (.int (0) 0), (.int (3) 0), (.ref 662), (.bool true), (.int (318) 0), (.ref 663), .none, (.ref 664), (.ref 665), (.ref 666), (.int (1129) 0), (.int (511) 0), (.str "/claim/cut.py" 1130)]), #[]⟩
noncomputable def o656 (P : Params) : Obj := ⟨(.type "function"), none, (.func (fnOf "__init__" "shlex.__init__" (zBD (stAt 0 (zAJ (stAt 25 Challenge.pw_mq0411_02.main.body)))) (zAG (stAt 0 (zAJ (stAt 25 Challenge.pw_mq0411_02.main.body)))) (zAB (stAt 0 (zAJ (stAt 25 Challenge.pw_mq0411_02.main.body)))) (.ref 661) .none .none (.str "cpy313.shlex" 1106) none (.ref 667) .none)), #[]⟩
noncomputable def o662 (P : Params) : Obj := ⟨(.type "code"), none, (.fields #[(.str "punctuation_chars" 1132), (.str "shlex.punctuation_chars" 1133), (.str "/claim/cut.py" 1134), (.int (552) 0), (.int (1) 0), (.int (0) 0), (.int (0) 0), (.int (3) 0), (.ref 669), (.bool true), (.int (318) 0), (.ref 670), .none, (.ref 671), (.ref 672), (.ref 673), (.int (1136) 0), (.int (552) 0), (.str "/claim/cut.py" 1137)]), #[]⟩
noncomputable def o663 (P : Params) : Obj := ⟨(.type "function"), none, (.func (fnOf "punctuation_chars" "shlex.punctuation_chars" (zBD (stAt 1 (zAJ (stAt 25 Challenge.pw_mq0411_02.main.body)))) (zAG (stAt 1 (zAJ (stAt 25 Challenge.pw_mq0411_02.main.body)))) (zAB (stAt 1 (zAJ (stAt 25 Challenge.pw_mq0411_02.main.body)))) .none .none .none (.str "cpy313.shlex" 1106) none (.ref 674) .none)), #[]⟩
noncomputable def o664 (P : Params) : Obj := ⟨(.type "property"), none, (.fields #[(.ref 675), .none, .none, .none, (.str "punctuation_chars" 1139), (.bool false)]), #[]⟩
noncomputable def o692 (P : Params) : Obj := ⟨(.type "code"), none, (.fields #[(.str "get_token" 1164), (.str "shlex.get_token" 1165), (.str "/claim/cut.py" 1166), (.int (579) 0), (.int (1) 0), (.int (0) 0), (.int (0) 0), (.int (3) 0), (.ref 699), (.bool true), (.int (318) 0), (.ref 700), .none, (.ref 701), (.ref 702), (.ref 703), (.int (1173) 0), (.int (579) 0), (.str "/claim/cut.py" 1174)]), #[]⟩
noncomputable def o693 (P : Params) : Obj := ⟨(.type "function"), none, (.func (fnOf "get_token" "shlex.get_token" (zBD (stAt 5 (zAJ (stAt 25 Challenge.pw_mq0411_02.main.body)))) (zAG (stAt 5 (zAJ (stAt 25 Challenge.pw_mq0411_02.main.body)))) (zAB (stAt 5 (zAJ (stAt 25 Challenge.pw_mq0411_02.main.body)))) .none .none .none (.str "cpy313.shlex" 1106) none (.ref 704) .none)), #[]⟩
noncomputable def o699 (P : Params) : Obj := ⟨(.type "code"), none, (.fields #[(.str "read_token" 1176), (.str "shlex.read_token" 1177), (.str "/claim/cut.py" 1178), (.int (606) 0), (.int (1) 0), (.int (0) 0), (.int (0) 0), (.int (3) 0), (.ref 706), (.bool true), (.int (318) 0), (.ref 707), .none, (.ref 708), (.ref 709), (.ref 710), (.int (1184) 0), (.int (606) 0), (.str "/claim/cut.py" 1185)]), #[]⟩
noncomputable def o700 (P : Params) : Obj := ⟨(.type "function"), none, (.func (fnOf "read_token" "shlex.read_token" (zBD (stAt 6 (zAJ (stAt 25 Challenge.pw_mq0411_02.main.body)))) (zAG (stAt 6 (zAJ (stAt 25 Challenge.pw_mq0411_02.main.body)))) (zAB (stAt 6 (zAJ (stAt 25 Challenge.pw_mq0411_02.main.body)))) .none .none .none (.str "cpy313.shlex" 1106) none (.ref 711) .none)), #[]⟩
noncomputable def o721 (P : Params) : Obj := ⟨(.type "code"), none, (.fields #[(.str "__iter__" 1204), (.str "shlex.__iter__" 1205), (.str "/claim/cut.py" 1206), (.int (753) 0), (.int (1) 0), (.int (0) 0), (.int (0) 0), (.int (3) 0), (.ref 728), (.bool true), (.int (318) 0), (.ref 729), .none, (.ref 730), (.ref 731), (.ref 732), (.int (1208) 0), (.int (753) 0), (.str "/claim/cut.py" 1209)]), #[]⟩
noncomputable def o722 (P : Params) : Obj := ⟨(.type "function"), none, (.func (fnOf "__iter__" "shlex.__iter__" (zBD (stAt 9 (zAJ (stAt 25 Challenge.pw_mq0411_02.main.body)))) (zAG (stAt 9 (zAJ (stAt 25 Challenge.pw_mq0411_02.main.body)))) (zAB (stAt 9 (zAJ (stAt 25 Challenge.pw_mq0411_02.main.body)))) .none .none .none (.str "cpy313.shlex" 1106) none (.ref 733) .none)), #[]⟩
noncomputable def o728 (P : Params) : Obj := ⟨(.type "code"), none, (.fields #[(.str "__next__" 1211), (.str "shlex.__next__" 1212), (.str "/claim/cut.py" 1213), (.int (756) 0), (.int (1) 0), (.int (0) 0), (.int (0) 0), (.int (3) 0), (.ref 735), (.bool true), (.int (318) 0), (.ref 736), .none, (.ref 737), (.ref 738), (.ref 739), (.int (1216) 0), (.int (756) 0), (.str "/claim/cut.py" 1217)]), #[]⟩
noncomputable def o729 (P : Params) : Obj := ⟨(.type "function"), none, (.func (fnOf "__next__" "shlex.__next__" (zBD (stAt 10 (zAJ (stAt 25 Challenge.pw_mq0411_02.main.body)))) (zAG (stAt 10 (zAJ (stAt 25 Challenge.pw_mq0411_02.main.body)))) (zAB (stAt 10 (zAJ (stAt 25 Challenge.pw_mq0411_02.main.body)))) .none .none .none (.str "cpy313.shlex" 1106) none (.ref 740) .none)), #[]⟩
noncomputable def o731 (P : Params) : Obj := ⟨(.type "dict"), none, (.dict (List.toArray [⟨PyData.keyHash P "__module__", .str "__module__" 1115, (.str "cpy313.shlex" 1106)⟩, ⟨PyData.keyHash P "__firstlineno__", .str "__firstlineno__" 1119, (.int (509) 1118)⟩, ⟨PyData.keyHash P "__init__", .str "__init__" 1131, (.ref 668)⟩, ⟨PyData.keyHash P "punctuation_chars", .str "punctuation_chars" 1139, (.ref 676)⟩, ⟨PyData.keyHash P "push_token", .str "push_token" 1147, (.ref 683)⟩, ⟨PyData.keyHash P "push_source", .str "push_source" 1156, (.ref 691)⟩, ⟨PyData.keyHash P "pop_source", .str "pop_source" 1163, (.ref 698)⟩, ⟨PyData.keyHash P "get_token", .str "get_token" 1175, (.ref 705)⟩, ⟨PyData.keyHash P "read_token", .str "read_token" 1186, (.ref 712)⟩, ⟨PyData.keyHash P "sourcehook", .str "sourcehook" 1194, (.ref 719)⟩, ⟨PyData.keyHash P "error_leader", .str "error_leader" 1203, (.ref 727)⟩, ⟨PyData.keyHash P "__iter__", .str "__iter__" 1210, (.ref 734)⟩, ⟨PyData.keyHash P "__next__", .str "__next__" 1218, (.ref 741)⟩, ⟨PyData.keyHash P "__static_attributes__", .str "__static_attributes__" 1239, (.ref 742)⟩, ⟨PyData.keyHash P "__dict__", .str "__dict__" 1241, (.ref 745)⟩, ⟨PyData.keyHash P "__weakref__", .str "__weakref__" 1243, (.ref 746)⟩, ⟨PyData.keyHash P "__doc__", .str "__doc__" 1244, .none⟩]) 4), #[]⟩
noncomputable def o732 (P : Params) : Obj := ⟨(.type "type"), none, (.cls { name := "shlex", bases := [(.type "object")], mro := [(.ref 744), (.type "object")], ns := 743, qualname := "shlex", hasDict := true, slotNames := [], subclasses := [], abstract := false, collection := none, hasDel := false }), #[none, none, (some (.str "shlex" 1108)), (some (.str "shlex" 1116)), (some (.builtin "object.__new__")), (some (.bool true))]⟩
noncomputable def o737 (P : Params) : Obj := ⟨(.type "tuple"), none, (.seq #[(.bool false), (.bool true)] 0), #[]⟩
noncomputable def o743 (P : Params) : Obj := ⟨(.type "code"), none, (.fields #[(.str "split" 1247), (.str "split" 1248), (.str "/claim/cut.py" 1249), (.int (761) 0), (.int (3) 0), (.int (0) 0), (.int (0) 0), (.int (3) 0), (.ref 750), (.bool true), (.int (318) 0), (.ref 751), .none, (.ref 752), (.ref 753), (.ref 754), (.int (1254) 0), (.int (761) 0), (.str "/claim/cut.py" 1255)]), #[]⟩
noncomputable def o744 (P : Params) : Obj := ⟨(.type "function"), none, (.func (fnOf "split" "split" (zBD (stAt 26 Challenge.pw_mq0411_02.main.body)) (zAG (stAt 26 Challenge.pw_mq0411_02.main.body)) (zAB (stAt 26 Challenge.pw_mq0411_02.main.body)) (.ref 749) .none .none (.str "cpy313.shlex" 1106) none (.ref 755) .none)), #[]⟩
noncomputable def o750 (P : Params) : Obj := ⟨(.type "code"), none, (.fields #[(.str "join" 1257), (.str "join" 1258), (.str "/claim/cut.py" 1259), (.int (769) 0), (.int (1) 0), (.int (0) 0), (.int (0) 0), (.int (3) 0), (.ref 757), (.bool true), (.int (318) 0), (.ref 758), .none, (.ref 759), (.ref 760), (.ref 761), (.int (1261) 0), (.int (769) 0), (.str "/claim/cut.py" 1262)]), #[]⟩
noncomputable def o751 (P : Params) : Obj := ⟨(.type "function"), none, (.func (fnOf "join" "join" (zBD (stAt 27 Challenge.pw_mq0411_02.main.body)) (zAG (stAt 27 Challenge.pw_mq0411_02.main.body)) (zAB (stAt 27 Challenge.pw_mq0411_02.main.body)) .none .none .none (.str "cpy313.shlex" 1106) none (.ref 762) .none)), #[]⟩
noncomputable def o752 (P : Params) : Obj := ⟨(.type "builtin_function_or_method"), none, (.fields #[(.builtin "re.Pattern.search"), (.ref 61)]), #[]⟩
noncomputable def o758 (P : Params) : Obj := ⟨(.type "code"), none, (.fields #[(.str "quote" 1267), (.str "quote" 1268), (.str "/claim/cut.py" 1269), (.int (773) 0), (.int (1) 0), (.int (0) 0), (.int (0) 0), (.int (3) 0), (.ref 765), (.bool true), (.int (318) 0), (.ref 766), .none, (.ref 767), (.ref 768), (.ref 769), (.int (1271) 0), (.int (773) 0), (.str "/claim/cut.py" 1272)]), #[]⟩
noncomputable def o759 (P : Params) : Obj := ⟨(.type "function"), none, (.func (fnOf "quote" "quote" (zBD (stAt 30 Challenge.pw_mq0411_02.main.body)) (zAG (stAt 30 Challenge.pw_mq0411_02.main.body)) (zAB (stAt 30 Challenge.pw_mq0411_02.main.body)) .none .none .none (.str "cpy313.shlex" 1106) none (.ref 770) .none)), #[]⟩
noncomputable def o789 (P : Params) : Obj := ⟨(.type "code"), none, (.fields #[(.str "_law_marked" 1276), (.str "_law_marked" 1277), (.str "/claim/cut.py" 1278), (.int (780) 0), (.int (1) 0), (.int (0) 0), (.int (0) 0), (.int (3) 0), (.ref 772), (.bool true), (.int (318) 0), (.ref 773), .none, .none, .none, (.ref 774), (.int (1279) 0), (.int (780) 0), (.str "/claim/cut.py" 1280)]), #[]⟩
noncomputable def o790 (P : Params) : Obj := ⟨(.type "function"), none, (.func (fnOf "_law_marked" "_law_marked" (zBD (stAt 32 Challenge.pw_mq0411_02.main.body)) (zAG (stAt 32 Challenge.pw_mq0411_02.main.body)) (zAB (stAt 32 Challenge.pw_mq0411_02.main.body)) .none .none .none (.str "law_mq0411_02" 1274) none (.ref 775) .none)), #[]⟩
noncomputable def o780 (P : Params) : Obj := ⟨(.type "code"), none, (.fields #[(.str "_law_setting" 1282), (.str "_law_setting" 1283), (.str "/claim/cut.py" 1284), (.int (782) 0), (.int (1) 0), (.int (0) 0), (.int (0) 0), (.int (3) 0), (.ref 777), (.bool true), (.int (318) 0), (.ref 778), .none, .none, .none, (.ref 779), (.int (1285) 0), (.int (782) 0), (.str "/claim/cut.py" 1286)]), #[]⟩
noncomputable def o781 (P : Params) : Obj := ⟨(.type "function"), none, (.func (fnOf "_law_setting" "_law_setting" (zBD (stAt 33 Challenge.pw_mq0411_02.main.body)) (zAG (stAt 33 Challenge.pw_mq0411_02.main.body)) (zAB (stAt 33 Challenge.pw_mq0411_02.main.body)) .none .none .none (.str "law_mq0411_02" 1274) none (.ref 780) .none)), #[]⟩
noncomputable def o785 (P : Params) : Obj := ⟨(.type "code"), none, (.fields #[(.str "_law_due" 1288), (.str "_law_due" 1289), (.str "/claim/cut.py" 1290), (.int (804) 0), (.int (1) 0), (.int (0) 0), (.int (0) 0), (.int (3) 0), (.ref 782), (.bool true), (.int (318) 0), (.ref 783), .none, .none, .none, (.ref 784), (.int (1291) 0), (.int (804) 0), (.str "/claim/cut.py" 1292)]), #[]⟩
noncomputable def o786 (P : Params) : Obj := ⟨(.type "function"), none, (.func (fnOf "_law_due" "_law_due" (zBD (stAt 34 Challenge.pw_mq0411_02.main.body)) (zAG (stAt 34 Challenge.pw_mq0411_02.main.body)) (zAB (stAt 34 Challenge.pw_mq0411_02.main.body)) .none .none .none (.str "law_mq0411_02" 1274) none (.ref 785) .none)), #[]⟩
noncomputable def o792 (P : Params) : Obj := ⟨(.type "code"), none, (.fields #[(.str "_law_told" 1294), (.str "_law_told" 1295), (.str "/claim/cut.py" 1296), (.int (820) 0), (.int (1) 0), (.int (0) 0), (.int (0) 0), (.int (3) 0), (.ref 787), (.bool true), (.int (318) 0), (.ref 788), .none, (.ref 789), (.ref 790), (.ref 791), (.int (1298) 0), (.int (820) 0), (.str "/claim/cut.py" 1299)]), #[]⟩
noncomputable def o793 (P : Params) : Obj := ⟨(.type "function"), none, (.func (fnOf "_law_told" "_law_told" (zBD (stAt 35 Challenge.pw_mq0411_02.main.body)) (zAG (stAt 35 Challenge.pw_mq0411_02.main.body)) (zAB (stAt 35 Challenge.pw_mq0411_02.main.body)) .none .none .none (.str "law_mq0411_02" 1274) none (.ref 792) .none)), #[]⟩
noncomputable def o797 (P : Params) : Obj := ⟨(.type "code"), none, (.fields #[(.str "_law_agrees" 1301), (.str "_law_agrees" 1302), (.str "/claim/cut.py" 1303), (.int (827) 0), (.int (2) 0), (.int (0) 0), (.int (0) 0), (.int (3) 0), (.ref 794), (.bool true), (.int (318) 0), (.ref 795), .none, .none, .none, (.ref 796), (.int (1304) 0), (.int (827) 0), (.str "/claim/cut.py" 1305)]), #[]⟩
noncomputable def o798 (P : Params) : Obj := ⟨(.type "function"), none, (.func (fnOf "_law_agrees" "_law_agrees" (zBD (stAt 36 Challenge.pw_mq0411_02.main.body)) (zAG (stAt 36 Challenge.pw_mq0411_02.main.body)) (zAB (stAt 36 Challenge.pw_mq0411_02.main.body)) .none .none .none (.str "law_mq0411_02" 1274) none (.ref 797) .none)), #[]⟩
noncomputable def o802 (P : Params) : Obj := ⟨(.type "code"), none, (.fields #[(.str "law" 1307), (.str "law" 1308), (.str "/claim/cut.py" 1309), (.int (834) 0), (.int (1) 0), (.int (0) 0), (.int (0) 0), (.int (3) 0), (.ref 799), (.bool true), (.int (318) 0), (.ref 800), .none, .none, .none, (.ref 801), (.int (1310) 0), (.int (834) 0), (.str "/claim/cut.py" 1311)]), #[]⟩
noncomputable def o803 (P : Params) : Obj := ⟨(.type "function"), none, (.func (fnOf "law" "law" (zBD (stAt 37 Challenge.pw_mq0411_02.main.body)) (zAG (stAt 37 Challenge.pw_mq0411_02.main.body)) (zAB (stAt 37 Challenge.pw_mq0411_02.main.body)) .none .none .none (.str "law_mq0411_02" 1274) none (.ref 802) .none)), #[]⟩
noncomputable def KK (P : Params) : Frag := [(nat_lit 3, o3 P), (nat_lit 4, o4 P), (nat_lit 50, o765 P), (nat_lit 51, o766 P), (nat_lit 55, o770 P), (nat_lit 56, o771 P), (nat_lit 60, o48 P), (nat_lit 61, o49 P), (nat_lit 74, o62 P), (nat_lit 75, o63 P), (nat_lit 101, o89 P), (nat_lit 102, o90 P), (nat_lit 104, o92 P), (nat_lit 105, o93 P), (nat_lit 106, o94 P), (nat_lit 131, o119 P), (nat_lit 132, o120 P), (nat_lit 362, o350 P), (nat_lit 372, o360 P), (nat_lit 378, o366 P), (nat_lit 379, o367 P), (nat_lit 385, o373 P), (nat_lit 386, o374 P), (nat_lit 392, o380 P), (nat_lit 393, o381 P), (nat_lit 548, o536 P), (nat_lit 554, o542 P), (nat_lit 555, o543 P), (nat_lit 577, o565 P), (nat_lit 578, o566 P), (nat_lit 584, o572 P), (nat_lit 585, o573 P), (nat_lit 608, o596 P), (nat_lit 609, o597 P), (nat_lit 661, o649 P), (nat_lit 667, o655 P), (nat_lit 668, o656 P), (nat_lit 674, o662 P), (nat_lit 675, o663 P), (nat_lit 676, o664 P), (nat_lit 704, o692 P), (nat_lit 705, o693 P), (nat_lit 711, o699 P), (nat_lit 712, o700 P), (nat_lit 733, o721 P), (nat_lit 734, o722 P), (nat_lit 740, o728 P), (nat_lit 741, o729 P), (nat_lit 743, o731 P), (nat_lit 744, o732 P), (nat_lit 749, o737 P), (nat_lit 755, o743 P), (nat_lit 756, o744 P), (nat_lit 762, o750 P), (nat_lit 763, o751 P), (nat_lit 764, o752 P), (nat_lit 770, o758 P), (nat_lit 771, o759 P), (nat_lit 775, o789 P), (nat_lit 776, o790 P), (nat_lit 780, o780 P), (nat_lit 781, o781 P), (nat_lit 785, o785 P), (nat_lit 786, o786 P), (nat_lit 792, o792 P), (nat_lit 793, o793 P), (nat_lit 797, o797 P), (nat_lit 798, o798 P), (nat_lit 802, o802 P), (nat_lit 803, o803 P)]
noncomputable def B01 : List Stmt := Challenge.pw_mq0411_02.main.body
noncomputable def s63 : Stmt := stAt 9 B01
noncomputable def s90 : Stmt := stAt 1 (zAJ (stAt 11 B01))
noncomputable def s367 : Stmt := stAt 1 (zAJ (stAt 15 B01))
noncomputable def s374 : Stmt := stAt 2 (zAJ (stAt 15 B01))
noncomputable def s381 : Stmt := stAt 3 (zAJ (stAt 15 B01))
noncomputable def s543 : Stmt := stAt 25 (zAJ (stAt 15 B01))
noncomputable def s656 : Stmt := stAt 0 (zAJ (stAt 25 B01))
noncomputable def s663 : Stmt := stAt 1 (zAJ (stAt 25 B01))
noncomputable def f63 : FnE := ⟨75, 2, ["n", "what"], [], zAG s63, zAB s63, "_index", .ref 74, []⟩
noncomputable def f381 : FnE := ⟨393, 1, ["self"], [], zAG s381, zAB s381, "StringIO.__check", .ref 392, []⟩
noncomputable def f543 : FnE := ⟨555, 2, ["self", "size"], [], zAG s543, zAB s543, "StringIO.read", .ref 554, []⟩
theorem zSu (P : Params) : FnOk (KK P) f381 := FnOk.of (by kernel_rfl) (by kernel_rfl) ⟨_, _, _, _, (by kernel_rfl : (KK P).lookup 393 = some (o381 P)), rfl, rfl, fun _ _ => rfl, rfl, rfl, fun s vs X h => by
 obtain ⟨a, rfl⟩ := len1 h
 exact BindsTo.of_eq (by kernel_rfl)⟩
noncomputable def f663 : FnE := ⟨675, 1, ["self"], [], zAG s663, zAB s663, "shlex.punctuation_chars", .ref 674, []⟩
theorem zPk (P : Params) : FnOk (KK P) f663 := FnOk.of (by kernel_rfl) (by kernel_rfl) ⟨_, _, _, _, (by kernel_rfl : (KK P).lookup 675 = some (o663 P)), rfl, rfl, fun _ _ => rfl, rfl, rfl, fun s vs X h => by
 obtain ⟨a, rfl⟩ := len1 h
 exact BindsTo.of_eq (by kernel_rfl)⟩
theorem zTx (P : Params) : FnOk (KK P) f63 := FnOk.of (by kernel_rfl) (by kernel_rfl) ⟨_, _, _, _, (by kernel_rfl : (KK P).lookup 75 = some (o63 P)), rfl, rfl, fun _ _ => rfl, rfl, rfl, fun s vs X h => by
 obtain ⟨a, b, rfl⟩ := len2 h
 exact BindsTo.of_eq (by kernel_rfl)⟩
theorem zSt (P : Params) : FnOk (KK P) f543 := FnOk.of (by kernel_rfl) (by kernel_rfl) ⟨_, _, _, _, (by kernel_rfl : (KK P).lookup 555 = some (o543 P)), rfl, rfl, fun _ _ => rfl, rfl, rfl, fun s vs X h => by
 obtain ⟨a, b, rfl⟩ := len2 h
 exact binds_K (K := KK P) X rfl (by kernel_rfl : (KK P).lookup 548 = some (o536 P)) rfl (by rfl) (by kernel_rfl)⟩
noncomputable def c597 : ClsE := ⟨609, ["_StringIO__buf", "_StringIO__pos", "_StringIO__newline"], [("_StringIO__check", 393), ("_StringIO__translated", 386), ("read", 555)], []⟩
theorem zFq (P : Params) : ClsOk (KK P) c597 := ClsOk.of (by kernel_rfl)
noncomputable def c732 : ClsE := ⟨744, ["instream", "infile", "posix", "eof", "commenters", "wordchars", "whitespace", "whitespace_split", "quotes", "escape", "escapedquotes", "state", "pushback", "lineno", "debug", "token", "filestack", "source", "_punctuation_chars"], [("get_token", 705), ("read_token", 712)], [("punctuation_chars", 676, 675)]⟩
theorem zHp (P : Params) : ClsOk (KK P) c732 := ClsOk.of (by kernel_rfl)
noncomputable def g01 : List (Str × Value) := [("_index", .ref 75), ("len", .builtin "len"), ("type", .type "type"), ("int", .type "int"), ("bool", .type "bool"), ("deque", .type "collections.deque"), ("isinstance", .builtin "isinstance"), ("str", .type "str")]
theorem zMl (P : Params) : ∀ p ∈ g01, zCI (KK P) p :=
 zAA ⟨by kernel_rfl, .inl (by kernel_rfl)⟩ <| zAA ⟨by kernel_rfl, .inr ⟨by kernel_rfl, by kernel_rfl, by kernel_rfl⟩⟩ <| zAA ⟨by kernel_rfl, .inr ⟨by kernel_rfl, by kernel_rfl, by kernel_rfl⟩⟩ <|
 zAA ⟨by kernel_rfl, .inr ⟨by kernel_rfl, by kernel_rfl, by kernel_rfl⟩⟩ <| zAA ⟨by kernel_rfl, .inr ⟨by kernel_rfl, by kernel_rfl, by kernel_rfl⟩⟩ <| zAA ⟨by kernel_rfl, .inl (by kernel_rfl)⟩ <|
 zAA ⟨by kernel_rfl, .inr ⟨by kernel_rfl, by kernel_rfl, by kernel_rfl⟩⟩ <| zAA ⟨by kernel_rfl, .inr ⟨by kernel_rfl, by kernel_rfl, by kernel_rfl⟩⟩ <| zAD
noncomputable abbrev sio (b : Str) (p : Int) : SO := .inst 609 [("_StringIO__newline", .str "\n"), ("_StringIO__buf", .str b), ("_StringIO__pos", .int p)]
noncomputable def cf0 (P : Params) : Cf where
 K := KK P
 globs := g01
 fns := [f63, f381, f543, f663]
 cls := [c597, c732]
theorem cok0 (w : World) : CfOk w (cf0 w.params) where
 fns := zAA ⟨zTx _, by kernel_rfl, zAP (by kernel_rfl)⟩ <| zAA ⟨zSu _, by kernel_rfl, zAP (by kernel_rfl)⟩ <| zAA ⟨zSt _, by kernel_rfl, zAP (by kernel_rfl)⟩ <| zAA ⟨zPk _, by kernel_rfl, zAP (by kernel_rfl)⟩ <| zAD
 cls := zAA (zFq _) <| zAA (zHp _) <| zAD
 globs := zAn (zMl _)
 sps := zAD
 hxs := zAD
 hss := zAD
theorem zLi (P : Params) (b : Str) (p : Int) (a : SO) (l : List SO) (k : Kt) : ev (cf0 P) 30 (zAB s543).names (.sts (zAG s543)) { loc := [("self", .obj 1), ("size", .int 1)], led := a :: sio b p :: l } k =
   ifT (decide ((b.length : Int) ≤ p)) (k (.ret (.str "")) { loc := [("self", .obj 1), ("size", .int 1), ("start", .int p), ("stop", .int b.length)], led := a :: sio b p :: l })
    (ifT (decide (p + 1 < b.length)) (k (.ret (.str (Txt.slice b (some p) (some (p + 1))))) { loc := [("self", .obj 1), ("size", .int 1), ("start", .int p), ("stop", .int (p + 1))], led := a :: sio b (p + 1) :: l })
      (k (.ret (.str (Txt.slice b (some p) (some b.length)))) { loc := [("self", .obj 1), ("size", .int 1), ("start", .int p), ("stop", .int b.length)], led := a :: sio b b.length :: l })) := by
  kernel_rfl
noncomputable def SgAt (b : Str) (p : Int) (x : SV) : Prop := 0 ≤ p ∧ p < b.length ∧ zDm x = some (Txt.slice b (some p) (some (p + 1))) ∧ (match x with
 | .sg c es fs => (∀ q ∈ es, Fast.sEq (sgS c) q.1 = q.2) ∧ (∀ q ∈ fs, inB (sgS c) q.1 = q.2)
 | _ => True)
noncomputable def zNK (svs : List SV) : Bool := match svs with
 | x :: r => match r with
  | y :: q => match q with
   | [] => match x with
    | .obj i => match y with
     | .int j => i == 1 && j == 1
     | _ => false
    | _ => false
   | _ :: _ => false
  | [] => false
 | [] => false
theorem zNJ {svs : List SV} (h : zNK svs = true) : svs = [.obj 1, .int 1] := by
 cases svs with
 | nil => exact Bool.noConfusion h
 | cons x r =>
 cases r with
 | nil => exact Bool.noConfusion h
 | cons y q =>
 cases q with
 | cons => exact Bool.noConfusion h
 | nil =>
 cases x <;> first | exact Bool.noConfusion h | skip
 cases y <;> first | exact Bool.noConfusion h | skip
 obtain ⟨a, b⟩ := (Bool.and_eq_true_iff.mp h : _ ∧ _)
 rw [eq_of_beq a, eq_of_beq b]
noncomputable def zTT (so : SO) : Option (Str × Int) := match so with
 | .inst _ fs => match fs with
  | _ :: r => match r with
   | f :: r => match r with
    | g :: _ => match f.2 with
     | .str b => match g.2 with
      | .int p => some (b, p)
      | _ => none
     | _ => none
    | [] => none
   | [] => none
  | [] => none
 | _ => none
noncomputable def zSM (o : Option (Str × Int)) (f : Str → Int → Prop) : Prop := match o with
 | some bp => f bp.1 bp.2
 | none => False
theorem zKP {o : Option (Str × Int)} {f : Str → Int → Prop} (h : zSM o f) : ∃ b p, f b p := by
 cases o with
 | none => exact h.elim
 | some bp => exact ⟨_, _, h⟩
noncomputable def rdG (svs : List SV) (st : St) (f : SO → SO → List SO → Str → Int → Prop) : Prop := match zNK svs with
 | true => match st.led with
  | a :: r => match r with
   | so :: rest => zSM (zTT so) fun b p => f a so rest b p
   | [] => False
  | [] => False
 | false => False
theorem zHF {svs : List SV} {st : St} {f : SO → SO → List SO → Str → Int → Prop} (h : rdG svs st f) : ∃ a so rest b p, svs = [.obj 1, .int 1] ∧ st.led = a :: so :: rest ∧ f a so rest b p := by
 unfold rdG at h
 cases q : zNK svs with
 | false => rw [q] at h; exact h.elim
 | true =>
  rw [q] at h
  obtain ⟨loc, led⟩ := st
  cases led with
  | nil => exact h.elim
  | cons a r =>
  cases r with
  | nil => exact h.elim
  | cons so rest =>
   obtain ⟨b, p, h⟩ := zKP h
   exact ⟨a, so, rest, b, p, zNJ q, rfl, h⟩
noncomputable def rdF (x : SV) (svs : List SV) (st : St) (k : Kt) : Prop := rdG svs st fun a so rest b p => so = sio b p ∧ SgAt b p x ∧ k (.v x) { st with led := a :: sio b (p + 1) :: rest }
noncomputable def rdE (svs : List SV) (st : St) (k : Kt) : Prop := rdG svs st fun a so rest b p => so = sio b p ∧ (b.length : Int) ≤ p ∧ k (.v (.str "")) st
noncomputable def rdSp (x : SV) : SpE := ⟨555, 2, 40, rdF x⟩
noncomputable def rdEnd : SpE := ⟨555, 2, 40, rdE⟩
theorem zLk {x : SV} {svs : List SV} {st : St} {k : Kt} (h : rdF x svs st k) : ∃ a b p rest, svs = [.obj 1, .int 1] ∧ st.led = a :: sio b p :: rest ∧ SgAt b p x ∧ k (.v x) { st with led := a :: sio b (p + 1) :: rest } := by
 obtain ⟨a, so, rest, b, p, e, hl, h1, h2, h3⟩ := zHF h
 exact ⟨a, b, p, rest, e, by rw [hl, h1], h2, h3⟩
theorem zLl {svs : List SV} {st : St} {k : Kt} (h : rdE svs st k) : ∃ a b p rest, svs = [.obj 1, .int 1] ∧ st.led = a :: sio b p :: rest ∧ (b.length : Int) ≤ p ∧ k (.v (.str "")) st := by
 obtain ⟨a, so, rest, b, p, e, hl, h1, h2, h3⟩ := zHF h
 exact ⟨a, b, p, rest, e, by rw [hl, h1], h2, h3⟩
theorem zSG {w : World} {C : Cf} (hK : C.K = KK w.params) (hC : C.known = true) (x : SV) : SpOk w C (rdSp x) := by
 refine ⟨by rw [hK]; kernel_rfl, ?_⟩
 intro F A ads st s svs vs k Q Rr ok hA hh hd hu h R D hl T hR
 replace hA : true = true → A.frames = some F.stk := fun _ => hA hC
 obtain ⟨a, b, p, rest, rfl, hled, ⟨p0, p1, sx, fx⟩, hk⟩ := zLk h
 have ok0 : FmOk (cf0 w.params) F := zAY (by rw [hK]; rfl) ok (by first | exact fun _ => rfl | exact fun _ => by assumption | exact fun h => h)
 have cok := cok0 w
 have d40 : (rdSp x).d = 40 := rfl
 rw [d40] at hd hu
 -- the result as a plain text
 let k' : Kt := fun r st' => ∃ z, r = .v z ∧ zDm x = zDm z ∧ (∃ u, z = .str u) ∧ st' = { st with led := a :: sio b (p + 1) :: rest }
 have T' : Then w F ads s k' Q := by
  rintro r st' more c s' ⟨z, rfl, hz, ⟨u, rfl⟩, rfl⟩ R' nx d
  cases c with
  | v v =>
   refine T (.v x) _ more (.v v) s' hk R' nx ?_
   show Den F.B (wa ads more) x v
   have du : Den F.B (wa ads more) (.str u) v := d
   cases x with
   | str y =>
    have : y = u := Option.some.inj hz
    rw [this]; exact du
   | sg c es fs =>
    have : sgS c = u := Option.some.inj hz
    subst this
    exact ⟨du.1, fx.1, fx.2⟩
   | _ => cases hz
  | _ => exact d.elim
 have hb : decide ((b.length : Int) ≤ p) = false := decide_eq_false (by omega)
 refine zCH (e := f543) (n := 30) (zBY cok 30) cok ok0 hA hh (by omega) (by omega) (by omega) R D (by kernel_rfl) ?_ T' hR
 rw [hled]
 show ev (cf0 w.params) 30 (zAB s543).names (.sts (zAG s543)) { loc := [("self", .obj 1), ("size", .int 1)], led := a :: sio b p :: rest } _
 rw [zLi, hb]
 show ifT (decide (p + 1 < b.length)) _ _
 cases q : decide (p + 1 < b.length) with
 | true => exact ⟨_, rfl, sx, ⟨_, rfl⟩, rfl⟩
 | false =>
  have : (b.length : Int) = p + 1 := by have := of_decide_eq_false q; omega
  rw [this]
  exact ⟨_, rfl, sx, ⟨_, rfl⟩, rfl⟩
theorem zOB {w : World} {C : Cf} (hK : C.K = KK w.params) (hC : C.known = true) : SpOk w C rdEnd := by
 refine ⟨by rw [hK]; kernel_rfl, ?_⟩
 intro F A ads st s svs vs k Q Rr ok hA hh hd hu h R D hl T hR
 replace hA : true = true → A.frames = some F.stk := fun _ => hA hC
 obtain ⟨a, b, p, rest, rfl, hled, hp, hk⟩ := zLl h
 have ok0 : FmOk (cf0 w.params) F := zAY (by rw [hK]; rfl) ok (by first | exact fun _ => rfl | exact fun _ => by assumption | exact fun h => h)
 have cok := cok0 w
 have d40 : rdEnd.d = 40 := rfl
 rw [d40] at hd hu
 have hb : decide ((b.length : Int) ≤ p) = true := decide_eq_true hp
 refine zCH (e := f543) (n := 30) (zBY cok 30) cok ok0 hA hh (by omega) (by omega) (by omega) R D (by kernel_rfl) ?_ T hR
 rw [hled]
 show ev (cf0 w.params) 30 (zAB s543).names (.sts (zAG s543)) { loc := [("self", .obj 1), ("size", .int 1)], led := a :: sio b p :: rest } _
 rw [zLi, hb]
 show k (.v (.str "")) { loc := st.loc, led := a :: sio b p :: rest }
 rw [← hled]
 exact hk
noncomputable def s700 : Stmt := stAt 6 (zAJ (stAt 25 B01))
noncomputable def zTR : Stmt → List Stmt
 | .While _ b _ _ => b
 | _ => []
noncomputable def zAI : List Stmt := zTR (stAt 2 (zAG s700))
noncomputable def cfR (P : Params) (e : SpE) : Cf where
 K := KK P
 globs := g01
 fns := [f663]
 cls := [c597, c732]
 sps := [e]
noncomputable def wch : Str := "abcdfeghijklmnopqrstuvwxyzABCDEFGHIJKLMNOPQRSTUVWXYZ0123456789_ßàáâãäåæçèéêëìíîïðñòóôõöøùúûüýþÿÀÁÂÃÄÅÆÇÈÉÊËÌÍÎÏÐÑÒÓÔÕÖØÙÚÛÜÝÞ"
noncomputable abbrev lx (state token : SV) (line : Int) : SO := .inst 744 [("instream", .obj 1), ("infile", .none), ("posix", .bool true), ("eof", .none), ("commenters", .str ""), ("wordchars", .str wch), ("whitespace", .str " \t\r\n"), ("whitespace_split", .bool true), ("quotes", .str "'\""), ("escape", .str "\\"), ("escapedquotes", .str "\""), ("state", state), ("pushback", .obj 2), ("lineno", .int line), ("debug", .int 0), ("token", token), ("filestack", .obj 3), ("source", .none), ("_punctuation_chars", .str "")]
noncomputable abbrev dqO : SO := .raw (zBR .none (rawInt 0))
noncomputable abbrev zAC (state token : SV) (line : Int) (b : Str) (p : Int) (l : List SO) : List SO := lx state token line :: sio b p :: dqO :: dqO :: l
noncomputable def esO : List (Str × Bool) := [("\n", false), ("'", false), ("\"", false), ("\\", false)]
noncomputable def fsO (u : Bool) : List (Str × Bool) := [(" \t\r\n", false), ("", false), ("\\", false), (wch, u), ("'\"", false)]
theorem zQF (P : Params) (e : SV) (b : Str) (i p : Int) (k : Kt) : ev (cfR P (rdSp (.str "\n"))) 60 (zAB s700).names (.sts zAI) { loc := [("self", .obj 0), ("quoted", (.bool false)), ("escapedstate", e)], led := zAC (.str " ") (.str "") i b p [] } k = (sio b p = sio b p ∧ SgAt b p (.str "\n") ∧ k .cont { loc := [("self", .obj 0), ("quoted", (.bool false)), ("escapedstate", e), ("nextchar", (.str "\n"))], led := zAC (.str " ") (.str "") (i + 1) b (p + 1) [] }) := by
 kernel_rfl
theorem zQJ (P : Params) (e : SV) (b : Str) (i p : Int) (k : Kt) : ev (cfR P (rdSp (.str " "))) 60 (zAB s700).names (.sts zAI) { loc := [("self", .obj 0), ("quoted", (.bool false)), ("escapedstate", e)], led := zAC (.str " ") (.str "") i b p [] } k = (sio b p = sio b p ∧ SgAt b p (.str " ") ∧ k .cont { loc := [("self", .obj 0), ("quoted", (.bool false)), ("escapedstate", e), ("nextchar", (.str " "))], led := zAC (.str " ") (.str "") i b (p + 1) [] }) := by
 kernel_rfl
theorem zQD (P : Params) (e : SV) (b : Str) (i p : Int) (k : Kt) : ev (cfR P (rdSp (.str "\t"))) 60 (zAB s700).names (.sts zAI) { loc := [("self", .obj 0), ("quoted", (.bool false)), ("escapedstate", e)], led := zAC (.str " ") (.str "") i b p [] } k = (sio b p = sio b p ∧ SgAt b p (.str "\t") ∧ k .cont { loc := [("self", .obj 0), ("quoted", (.bool false)), ("escapedstate", e), ("nextchar", (.str "\t"))], led := zAC (.str " ") (.str "") i b (p + 1) [] }) := by
 kernel_rfl
theorem zQH (P : Params) (e : SV) (b : Str) (i p : Int) (k : Kt) : ev (cfR P (rdSp (.str "\r"))) 60 (zAB s700).names (.sts zAI) { loc := [("self", .obj 0), ("quoted", (.bool false)), ("escapedstate", e)], led := zAC (.str " ") (.str "") i b p [] } k = (sio b p = sio b p ∧ SgAt b p (.str "\r") ∧ k .cont { loc := [("self", .obj 0), ("quoted", (.bool false)), ("escapedstate", e), ("nextchar", (.str "\r"))], led := zAC (.str " ") (.str "") i b (p + 1) [] }) := by
 kernel_rfl
theorem zQE (P : Params) (e : SV) (b : Str) (i p : Int) (k : Kt) : ev (cfR P (rdSp (.str "'"))) 60 (zAB s700).names (.sts zAI) { loc := [("self", .obj 0), ("quoted", (.bool false)), ("escapedstate", e)], led := zAC (.str " ") (.str "") i b p [] } k = (sio b p = sio b p ∧ SgAt b p (.str "'") ∧ k .next { loc := [("self", .obj 0), ("quoted", (.bool false)), ("escapedstate", e), ("nextchar", (.str "'"))], led := zAC (.str "'") (.str "") i b (p + 1) [] }) := by
 kernel_rfl
theorem zQG (P : Params) (e : SV) (b : Str) (i p : Int) (k : Kt) : ev (cfR P (rdSp (.str "\""))) 60 (zAB s700).names (.sts zAI) { loc := [("self", .obj 0), ("quoted", (.bool false)), ("escapedstate", e)], led := zAC (.str " ") (.str "") i b p [] } k = (sio b p = sio b p ∧ SgAt b p (.str "\"") ∧ k .next { loc := [("self", .obj 0), ("quoted", (.bool false)), ("escapedstate", e), ("nextchar", (.str "\""))], led := zAC (.str "\"") (.str "") i b (p + 1) [] }) := by
 kernel_rfl
theorem zQI (P : Params) (e : SV) (b : Str) (i p : Int) (k : Kt) : ev (cfR P (rdSp (.str "\\"))) 60 (zAB s700).names (.sts zAI) { loc := [("self", .obj 0), ("quoted", (.bool false)), ("escapedstate", e)], led := zAC (.str " ") (.str "") i b p [] } k = (sio b p = sio b p ∧ SgAt b p (.str "\\") ∧ k .next { loc := [("self", .obj 0), ("quoted", (.bool false)), ("escapedstate", (.str "a")), ("nextchar", (.str "\\"))], led := zAC (.str "\\") (.str "") i b (p + 1) [] }) := by
 kernel_rfl
theorem zIH (P : Params) (c : Nat) (e : SV) (b : Str) (i p : Int) (k : Kt) : ev (cfR P (rdSp (.sg c esO (fsO true)))) 60 (zAB s700).names (.sts zAI) { loc := [("self", .obj 0), ("quoted", (.bool false)), ("escapedstate", e)], led := zAC (.str " ") (.str "") i b p [] } k = (sio b p = sio b p ∧ SgAt b p (.sg c esO (fsO true)) ∧ k .next { loc := [("self", .obj 0), ("quoted", (.bool false)), ("escapedstate", e), ("nextchar", (.sg c esO (fsO true)))], led := zAC (.str "a") (.str (sgS c)) i b (p + 1) [] }) := by
 kernel_rfl
theorem zGr (P : Params) (c : Nat) (e : SV) (b : Str) (i p : Int) (k : Kt) : ev (cfR P (rdSp (.sg c esO (fsO false)))) 60 (zAB s700).names (.sts zAI) { loc := [("self", .obj 0), ("quoted", (.bool false)), ("escapedstate", e)], led := zAC (.str " ") (.str "") i b p [] } k = (sio b p = sio b p ∧ SgAt b p (.sg c esO (fsO false)) ∧ k .next { loc := [("self", .obj 0), ("quoted", (.bool false)), ("escapedstate", e), ("nextchar", (.sg c esO (fsO false)))], led := zAC (.str "a") (.str (sgS c)) i b (p + 1) [] }) := by
 kernel_rfl
theorem zNR (P : Params) (e : SV) (b : Str) (i p : Int) (k : Kt) : ev (cfR P rdEnd) 60 (zAB s700).names (.sts zAI) { loc := [("self", .obj 0), ("quoted", (.bool false)), ("escapedstate", e)], led := zAC (.str " ") (.str "") i b p [] } k = (sio b p = sio b p ∧ (b.length : Int) ≤ p ∧ k .brk { loc := [("self", .obj 0), ("quoted", (.bool false)), ("escapedstate", e), ("nextchar", .str "")], led := zAC .none (.str "") i b p [] }) := by
 kernel_rfl
theorem zPO (P : Params) (q : Bool) (e : SV) (t : Str) (b : Str) (i p : Int) (k : Kt) : ev (cfR P (rdSp (.str "\n"))) 60 (zAB s700).names (.sts zAI) { loc := [("self", .obj 0), ("quoted", .bool q), ("escapedstate", e)], led := zAC (.str "a") (.str t) i b p [] } k = (sio b p = sio b p ∧ SgAt b p (.str "\n") ∧ ifT ((t.length : Int) != 0) (k .brk { loc := [("self", .obj 0), ("quoted", .bool q), ("escapedstate", e), ("nextchar", (.str "\n"))], led := zAC (.str " ") (.str t) (i + 1) b (p + 1) [.tup [.str "a", .str "c"]] }) (ifT q (k .brk { loc := [("self", .obj 0), ("quoted", .bool q), ("escapedstate", e), ("nextchar", (.str "\n"))], led := zAC (.str " ") (.str t) (i + 1) b (p + 1) [.tup [.str "a", .str "c"]] }) (k .cont { loc := [("self", .obj 0), ("quoted", .bool q), ("escapedstate", e), ("nextchar", (.str "\n"))], led := zAC (.str " ") (.str t) (i + 1) b (p + 1) [.tup [.str "a", .str "c"]] }))) := by
 kernel_rfl
theorem zPQ (P : Params) (q : Bool) (e : SV) (t : Str) (b : Str) (i p : Int) (k : Kt) : ev (cfR P (rdSp (.str " "))) 60 (zAB s700).names (.sts zAI) { loc := [("self", .obj 0), ("quoted", .bool q), ("escapedstate", e)], led := zAC (.str "a") (.str t) i b p [] } k = (sio b p = sio b p ∧ SgAt b p (.str " ") ∧ ifT ((t.length : Int) != 0) (k .brk { loc := [("self", .obj 0), ("quoted", .bool q), ("escapedstate", e), ("nextchar", (.str " "))], led := zAC (.str " ") (.str t) i b (p + 1) [.tup [.str "a", .str "c"]] }) (ifT q (k .brk { loc := [("self", .obj 0), ("quoted", .bool q), ("escapedstate", e), ("nextchar", (.str " "))], led := zAC (.str " ") (.str t) i b (p + 1) [.tup [.str "a", .str "c"]] }) (k .cont { loc := [("self", .obj 0), ("quoted", .bool q), ("escapedstate", e), ("nextchar", (.str " "))], led := zAC (.str " ") (.str t) i b (p + 1) [.tup [.str "a", .str "c"]] }))) := by
 kernel_rfl
theorem zPN (P : Params) (q : Bool) (e : SV) (t : Str) (b : Str) (i p : Int) (k : Kt) : ev (cfR P (rdSp (.str "\t"))) 60 (zAB s700).names (.sts zAI) { loc := [("self", .obj 0), ("quoted", .bool q), ("escapedstate", e)], led := zAC (.str "a") (.str t) i b p [] } k = (sio b p = sio b p ∧ SgAt b p (.str "\t") ∧ ifT ((t.length : Int) != 0) (k .brk { loc := [("self", .obj 0), ("quoted", .bool q), ("escapedstate", e), ("nextchar", (.str "\t"))], led := zAC (.str " ") (.str t) i b (p + 1) [.tup [.str "a", .str "c"]] }) (ifT q (k .brk { loc := [("self", .obj 0), ("quoted", .bool q), ("escapedstate", e), ("nextchar", (.str "\t"))], led := zAC (.str " ") (.str t) i b (p + 1) [.tup [.str "a", .str "c"]] }) (k .cont { loc := [("self", .obj 0), ("quoted", .bool q), ("escapedstate", e), ("nextchar", (.str "\t"))], led := zAC (.str " ") (.str t) i b (p + 1) [.tup [.str "a", .str "c"]] }))) := by
 kernel_rfl
theorem zPP (P : Params) (q : Bool) (e : SV) (t : Str) (b : Str) (i p : Int) (k : Kt) : ev (cfR P (rdSp (.str "\r"))) 60 (zAB s700).names (.sts zAI) { loc := [("self", .obj 0), ("quoted", .bool q), ("escapedstate", e)], led := zAC (.str "a") (.str t) i b p [] } k = (sio b p = sio b p ∧ SgAt b p (.str "\r") ∧ ifT ((t.length : Int) != 0) (k .brk { loc := [("self", .obj 0), ("quoted", .bool q), ("escapedstate", e), ("nextchar", (.str "\r"))], led := zAC (.str " ") (.str t) i b (p + 1) [.tup [.str "a", .str "c"]] }) (ifT q (k .brk { loc := [("self", .obj 0), ("quoted", .bool q), ("escapedstate", e), ("nextchar", (.str "\r"))], led := zAC (.str " ") (.str t) i b (p + 1) [.tup [.str "a", .str "c"]] }) (k .cont { loc := [("self", .obj 0), ("quoted", .bool q), ("escapedstate", e), ("nextchar", (.str "\r"))], led := zAC (.str " ") (.str t) i b (p + 1) [.tup [.str "a", .str "c"]] }))) := by
 kernel_rfl
theorem zRt (P : Params) (q : Bool) (e : SV) (t : Str) (b : Str) (i p : Int) (k : Kt) : ev (cfR P (rdSp (.str "'"))) 60 (zAB s700).names (.sts zAI) { loc := [("self", .obj 0), ("quoted", (.bool q)), ("escapedstate", e)], led := zAC (.str "a") (.str t) i b p [] } k = (sio b p = sio b p ∧ SgAt b p (.str "'") ∧ k .next { loc := [("self", .obj 0), ("quoted", (.bool q)), ("escapedstate", e), ("nextchar", (.str "'"))], led := zAC (.str "'") (.str t) i b (p + 1) [.tup [.str "a", .str "c"]] }) := by
 kernel_rfl
theorem zRu (P : Params) (q : Bool) (e : SV) (t : Str) (b : Str) (i p : Int) (k : Kt) : ev (cfR P (rdSp (.str "\""))) 60 (zAB s700).names (.sts zAI) { loc := [("self", .obj 0), ("quoted", (.bool q)), ("escapedstate", e)], led := zAC (.str "a") (.str t) i b p [] } k = (sio b p = sio b p ∧ SgAt b p (.str "\"") ∧ k .next { loc := [("self", .obj 0), ("quoted", (.bool q)), ("escapedstate", e), ("nextchar", (.str "\""))], led := zAC (.str "\"") (.str t) i b (p + 1) [.tup [.str "a", .str "c"]] }) := by
 kernel_rfl
theorem zRv (P : Params) (q : Bool) (e : SV) (t : Str) (b : Str) (i p : Int) (k : Kt) : ev (cfR P (rdSp (.str "\\"))) 60 (zAB s700).names (.sts zAI) { loc := [("self", .obj 0), ("quoted", (.bool q)), ("escapedstate", e)], led := zAC (.str "a") (.str t) i b p [] } k = (sio b p = sio b p ∧ SgAt b p (.str "\\") ∧ k .next { loc := [("self", .obj 0), ("quoted", (.bool q)), ("escapedstate", (.str "a")), ("nextchar", (.str "\\"))], led := zAC (.str "\\") (.str t) i b (p + 1) [.tup [.str "a", .str "c"]] }) := by
 kernel_rfl
theorem zJs (P : Params) (c : Nat) (q : Bool) (e : SV) (t : Str) (b : Str) (i p : Int) (k : Kt) : ev (cfR P (rdSp (.sg c esO (fsO true)))) 60 (zAB s700).names (.sts zAI) { loc := [("self", .obj 0), ("quoted", (.bool q)), ("escapedstate", e)], led := zAC (.str "a") (.str t) i b p [] } k = (sio b p = sio b p ∧ SgAt b p (.sg c esO (fsO true)) ∧ (t.length + 1 ≤ sizeLine ∧ k .next { loc := [("self", .obj 0), ("quoted", (.bool q)), ("escapedstate", e), ("nextchar", (.sg c esO (fsO true)))], led := zAC (.str "a") (.str (t ++ sgS c)) i b (p + 1) [.tup [.str "a", .str "c"]] })) := by
 kernel_rfl
theorem zIJ (P : Params) (c : Nat) (q : Bool) (e : SV) (t : Str) (b : Str) (i p : Int) (k : Kt) : ev (cfR P (rdSp (.sg c esO (fsO false)))) 60 (zAB s700).names (.sts zAI) { loc := [("self", .obj 0), ("quoted", (.bool q)), ("escapedstate", e)], led := zAC (.str "a") (.str t) i b p [] } k = (sio b p = sio b p ∧ SgAt b p (.sg c esO (fsO false)) ∧ (t.length + 1 ≤ sizeLine ∧ k .next { loc := [("self", .obj 0), ("quoted", (.bool q)), ("escapedstate", e), ("nextchar", (.sg c esO (fsO false)))], led := zAC (.str "a") (.str (t ++ sgS c)) i b (p + 1) [.tup [.str "a", .str "c"]] })) := by
 kernel_rfl
theorem zQR (P : Params) (q : Bool) (e : SV) (t : Str) (b : Str) (i p : Int) (k : Kt) : ev (cfR P rdEnd) 60 (zAB s700).names (.sts zAI) { loc := [("self", .obj 0), ("quoted", (.bool q)), ("escapedstate", e)], led := zAC (.str "a") (.str t) i b p [] } k = (sio b p = sio b p ∧ (b.length : Int) ≤ p ∧ k .brk { loc := [("self", .obj 0), ("quoted", (.bool q)), ("escapedstate", e), ("nextchar", .str "")], led := zAC .none (.str t) i b p [.tup [.str "a", .str "c"]] }) := by
 kernel_rfl
theorem zPy (P : Params) (q : Bool) (e : SV) (t : Str) (b : Str) (i p : Int) (k : Kt) : ev (cfR P (rdSp (.str "\n"))) 60 (zAB s700).names (.sts zAI) { loc := [("self", .obj 0), ("quoted", (.bool q)), ("escapedstate", e)], led := zAC (.str "'") (.str t) i b p [] } k = (sio b p = sio b p ∧ SgAt b p (.str "\n") ∧ (t.length + 1 ≤ sizeLine ∧ k .next { loc := [("self", .obj 0), ("quoted", (.bool true)), ("escapedstate", e), ("nextchar", (.str "\n"))], led := zAC (.str "'") (.str (t ++ "\n")) (i + 1) b (p + 1) [] })) := by
 kernel_rfl
theorem zQC (P : Params) (q : Bool) (e : SV) (t : Str) (b : Str) (i p : Int) (k : Kt) : ev (cfR P (rdSp (.str " "))) 60 (zAB s700).names (.sts zAI) { loc := [("self", .obj 0), ("quoted", (.bool q)), ("escapedstate", e)], led := zAC (.str "'") (.str t) i b p [] } k = (sio b p = sio b p ∧ SgAt b p (.str " ") ∧ (t.length + 1 ≤ sizeLine ∧ k .next { loc := [("self", .obj 0), ("quoted", (.bool true)), ("escapedstate", e), ("nextchar", (.str " "))], led := zAC (.str "'") (.str (t ++ " ")) i b (p + 1) [] })) := by
 kernel_rfl
theorem zPw (P : Params) (q : Bool) (e : SV) (t : Str) (b : Str) (i p : Int) (k : Kt) : ev (cfR P (rdSp (.str "\t"))) 60 (zAB s700).names (.sts zAI) { loc := [("self", .obj 0), ("quoted", (.bool q)), ("escapedstate", e)], led := zAC (.str "'") (.str t) i b p [] } k = (sio b p = sio b p ∧ SgAt b p (.str "\t") ∧ (t.length + 1 ≤ sizeLine ∧ k .next { loc := [("self", .obj 0), ("quoted", (.bool true)), ("escapedstate", e), ("nextchar", (.str "\t"))], led := zAC (.str "'") (.str (t ++ "\t")) i b (p + 1) [] })) := by
 kernel_rfl
theorem zQA (P : Params) (q : Bool) (e : SV) (t : Str) (b : Str) (i p : Int) (k : Kt) : ev (cfR P (rdSp (.str "\r"))) 60 (zAB s700).names (.sts zAI) { loc := [("self", .obj 0), ("quoted", (.bool q)), ("escapedstate", e)], led := zAC (.str "'") (.str t) i b p [] } k = (sio b p = sio b p ∧ SgAt b p (.str "\r") ∧ (t.length + 1 ≤ sizeLine ∧ k .next { loc := [("self", .obj 0), ("quoted", (.bool true)), ("escapedstate", e), ("nextchar", (.str "\r"))], led := zAC (.str "'") (.str (t ++ "\r")) i b (p + 1) [] })) := by
 kernel_rfl
theorem zPx (P : Params) (q : Bool) (e : SV) (t : Str) (b : Str) (i p : Int) (k : Kt) : ev (cfR P (rdSp (.str "'"))) 60 (zAB s700).names (.sts zAI) { loc := [("self", .obj 0), ("quoted", (.bool q)), ("escapedstate", e)], led := zAC (.str "'") (.str t) i b p [] } k = (sio b p = sio b p ∧ SgAt b p (.str "'") ∧ k .next { loc := [("self", .obj 0), ("quoted", (.bool true)), ("escapedstate", e), ("nextchar", (.str "'"))], led := zAC (.str "a") (.str t) i b (p + 1) [] }) := by
 kernel_rfl
theorem zPz (P : Params) (q : Bool) (e : SV) (t : Str) (b : Str) (i p : Int) (k : Kt) : ev (cfR P (rdSp (.str "\""))) 60 (zAB s700).names (.sts zAI) { loc := [("self", .obj 0), ("quoted", (.bool q)), ("escapedstate", e)], led := zAC (.str "'") (.str t) i b p [] } k = (sio b p = sio b p ∧ SgAt b p (.str "\"") ∧ (t.length + 1 ≤ sizeLine ∧ k .next { loc := [("self", .obj 0), ("quoted", (.bool true)), ("escapedstate", e), ("nextchar", (.str "\""))], led := zAC (.str "'") (.str (t ++ "\"")) i b (p + 1) [] })) := by
 kernel_rfl
theorem zQB (P : Params) (q : Bool) (e : SV) (t : Str) (b : Str) (i p : Int) (k : Kt) : ev (cfR P (rdSp (.str "\\"))) 60 (zAB s700).names (.sts zAI) { loc := [("self", .obj 0), ("quoted", (.bool q)), ("escapedstate", e)], led := zAC (.str "'") (.str t) i b p [] } k = (sio b p = sio b p ∧ SgAt b p (.str "\\") ∧ (t.length + 1 ≤ sizeLine ∧ k .next { loc := [("self", .obj 0), ("quoted", (.bool true)), ("escapedstate", e), ("nextchar", (.str "\\"))], led := zAC (.str "'") (.str (t ++ "\\")) i b (p + 1) [] })) := by
 kernel_rfl
theorem zIG (P : Params) (c : Nat) (q : Bool) (e : SV) (t : Str) (b : Str) (i p : Int) (k : Kt) : ev (cfR P (rdSp (.sg c esO (fsO true)))) 60 (zAB s700).names (.sts zAI) { loc := [("self", .obj 0), ("quoted", (.bool q)), ("escapedstate", e)], led := zAC (.str "'") (.str t) i b p [] } k = (sio b p = sio b p ∧ SgAt b p (.sg c esO (fsO true)) ∧ (t.length + 1 ≤ sizeLine ∧ k .next { loc := [("self", .obj 0), ("quoted", (.bool true)), ("escapedstate", e), ("nextchar", (.sg c esO (fsO true)))], led := zAC (.str "'") (.str (t ++ sgS c)) i b (p + 1) [] })) := by
 kernel_rfl
theorem zGq (P : Params) (c : Nat) (q : Bool) (e : SV) (t : Str) (b : Str) (i p : Int) (k : Kt) : ev (cfR P (rdSp (.sg c esO (fsO false)))) 60 (zAB s700).names (.sts zAI) { loc := [("self", .obj 0), ("quoted", (.bool q)), ("escapedstate", e)], led := zAC (.str "'") (.str t) i b p [] } k = (sio b p = sio b p ∧ SgAt b p (.sg c esO (fsO false)) ∧ (t.length + 1 ≤ sizeLine ∧ k .next { loc := [("self", .obj 0), ("quoted", (.bool true)), ("escapedstate", e), ("nextchar", (.sg c esO (fsO false)))], led := zAC (.str "'") (.str (t ++ sgS c)) i b (p + 1) [] })) := by
 kernel_rfl
theorem zQM (P : Params) (q : Bool) (e : SV) (t : Str) (b : Str) (i p : Int) (k : Kt) : ev (cfR P (rdSp (.str "\n"))) 60 (zAB s700).names (.sts zAI) { loc := [("self", .obj 0), ("quoted", (.bool q)), ("escapedstate", e)], led := zAC (.str "\"") (.str t) i b p [] } k = (sio b p = sio b p ∧ SgAt b p (.str "\n") ∧ (t.length + 1 ≤ sizeLine ∧ k .next { loc := [("self", .obj 0), ("quoted", (.bool true)), ("escapedstate", e), ("nextchar", (.str "\n"))], led := zAC (.str "\"") (.str (t ++ "\n")) (i + 1) b (p + 1) [] })) := by
 kernel_rfl
theorem zQQ (P : Params) (q : Bool) (e : SV) (t : Str) (b : Str) (i p : Int) (k : Kt) : ev (cfR P (rdSp (.str " "))) 60 (zAB s700).names (.sts zAI) { loc := [("self", .obj 0), ("quoted", (.bool q)), ("escapedstate", e)], led := zAC (.str "\"") (.str t) i b p [] } k = (sio b p = sio b p ∧ SgAt b p (.str " ") ∧ (t.length + 1 ≤ sizeLine ∧ k .next { loc := [("self", .obj 0), ("quoted", (.bool true)), ("escapedstate", e), ("nextchar", (.str " "))], led := zAC (.str "\"") (.str (t ++ " ")) i b (p + 1) [] })) := by
 kernel_rfl
theorem zQK (P : Params) (q : Bool) (e : SV) (t : Str) (b : Str) (i p : Int) (k : Kt) : ev (cfR P (rdSp (.str "\t"))) 60 (zAB s700).names (.sts zAI) { loc := [("self", .obj 0), ("quoted", (.bool q)), ("escapedstate", e)], led := zAC (.str "\"") (.str t) i b p [] } k = (sio b p = sio b p ∧ SgAt b p (.str "\t") ∧ (t.length + 1 ≤ sizeLine ∧ k .next { loc := [("self", .obj 0), ("quoted", (.bool true)), ("escapedstate", e), ("nextchar", (.str "\t"))], led := zAC (.str "\"") (.str (t ++ "\t")) i b (p + 1) [] })) := by
 kernel_rfl
theorem zQO (P : Params) (q : Bool) (e : SV) (t : Str) (b : Str) (i p : Int) (k : Kt) : ev (cfR P (rdSp (.str "\r"))) 60 (zAB s700).names (.sts zAI) { loc := [("self", .obj 0), ("quoted", (.bool q)), ("escapedstate", e)], led := zAC (.str "\"") (.str t) i b p [] } k = (sio b p = sio b p ∧ SgAt b p (.str "\r") ∧ (t.length + 1 ≤ sizeLine ∧ k .next { loc := [("self", .obj 0), ("quoted", (.bool true)), ("escapedstate", e), ("nextchar", (.str "\r"))], led := zAC (.str "\"") (.str (t ++ "\r")) i b (p + 1) [] })) := by
 kernel_rfl
theorem zQL (P : Params) (q : Bool) (e : SV) (t : Str) (b : Str) (i p : Int) (k : Kt) : ev (cfR P (rdSp (.str "'"))) 60 (zAB s700).names (.sts zAI) { loc := [("self", .obj 0), ("quoted", (.bool q)), ("escapedstate", e)], led := zAC (.str "\"") (.str t) i b p [] } k = (sio b p = sio b p ∧ SgAt b p (.str "'") ∧ (t.length + 1 ≤ sizeLine ∧ k .next { loc := [("self", .obj 0), ("quoted", (.bool true)), ("escapedstate", e), ("nextchar", (.str "'"))], led := zAC (.str "\"") (.str (t ++ "'")) i b (p + 1) [] })) := by
 kernel_rfl
theorem zQN (P : Params) (q : Bool) (e : SV) (t : Str) (b : Str) (i p : Int) (k : Kt) : ev (cfR P (rdSp (.str "\""))) 60 (zAB s700).names (.sts zAI) { loc := [("self", .obj 0), ("quoted", (.bool q)), ("escapedstate", e)], led := zAC (.str "\"") (.str t) i b p [] } k = (sio b p = sio b p ∧ SgAt b p (.str "\"") ∧ k .next { loc := [("self", .obj 0), ("quoted", (.bool true)), ("escapedstate", e), ("nextchar", (.str "\""))], led := zAC (.str "a") (.str t) i b (p + 1) [] }) := by
 kernel_rfl
theorem zQP (P : Params) (q : Bool) (e : SV) (t : Str) (b : Str) (i p : Int) (k : Kt) : ev (cfR P (rdSp (.str "\\"))) 60 (zAB s700).names (.sts zAI) { loc := [("self", .obj 0), ("quoted", (.bool q)), ("escapedstate", e)], led := zAC (.str "\"") (.str t) i b p [] } k = (sio b p = sio b p ∧ SgAt b p (.str "\\") ∧ k .next { loc := [("self", .obj 0), ("quoted", (.bool true)), ("escapedstate", (.str "\"")), ("nextchar", (.str "\\"))], led := zAC (.str "\\") (.str t) i b (p + 1) [] }) := by
 kernel_rfl
theorem zII (P : Params) (c : Nat) (q : Bool) (e : SV) (t : Str) (b : Str) (i p : Int) (k : Kt) : ev (cfR P (rdSp (.sg c esO (fsO true)))) 60 (zAB s700).names (.sts zAI) { loc := [("self", .obj 0), ("quoted", (.bool q)), ("escapedstate", e)], led := zAC (.str "\"") (.str t) i b p [] } k = (sio b p = sio b p ∧ SgAt b p (.sg c esO (fsO true)) ∧ (t.length + 1 ≤ sizeLine ∧ k .next { loc := [("self", .obj 0), ("quoted", (.bool true)), ("escapedstate", e), ("nextchar", (.sg c esO (fsO true)))], led := zAC (.str "\"") (.str (t ++ sgS c)) i b (p + 1) [] })) := by
 kernel_rfl
theorem zGs (P : Params) (c : Nat) (q : Bool) (e : SV) (t : Str) (b : Str) (i p : Int) (k : Kt) : ev (cfR P (rdSp (.sg c esO (fsO false)))) 60 (zAB s700).names (.sts zAI) { loc := [("self", .obj 0), ("quoted", (.bool q)), ("escapedstate", e)], led := zAC (.str "\"") (.str t) i b p [] } k = (sio b p = sio b p ∧ SgAt b p (.sg c esO (fsO false)) ∧ (t.length + 1 ≤ sizeLine ∧ k .next { loc := [("self", .obj 0), ("quoted", (.bool true)), ("escapedstate", e), ("nextchar", (.sg c esO (fsO false)))], led := zAC (.str "\"") (.str (t ++ sgS c)) i b (p + 1) [] })) := by
 kernel_rfl
theorem zLI (P : Params) (q : Bool) (t : Str) (b : Str) (i p : Int) (k : Kt) : ev (cfR P (rdSp (.str "\n"))) 60 (zAB s700).names (.sts zAI) { loc := [("self", .obj 0), ("quoted", (.bool q)), ("escapedstate", (.str "a"))], led := zAC (.str "\\") (.str t) i b p [] } k = (sio b p = sio b p ∧ SgAt b p (.str "\n") ∧ (t.length + 1 ≤ sizeLine ∧ k .next { loc := [("self", .obj 0), ("quoted", (.bool q)), ("escapedstate", (.str "a")), ("nextchar", (.str "\n"))], led := zAC (.str "a") (.str (t ++ "\n")) (i + 1) b (p + 1) [] })) := by
 kernel_rfl
theorem zLM (P : Params) (q : Bool) (t : Str) (b : Str) (i p : Int) (k : Kt) : ev (cfR P (rdSp (.str " "))) 60 (zAB s700).names (.sts zAI) { loc := [("self", .obj 0), ("quoted", (.bool q)), ("escapedstate", (.str "a"))], led := zAC (.str "\\") (.str t) i b p [] } k = (sio b p = sio b p ∧ SgAt b p (.str " ") ∧ (t.length + 1 ≤ sizeLine ∧ k .next { loc := [("self", .obj 0), ("quoted", (.bool q)), ("escapedstate", (.str "a")), ("nextchar", (.str " "))], led := zAC (.str "a") (.str (t ++ " ")) i b (p + 1) [] })) := by
 kernel_rfl
theorem zLG (P : Params) (q : Bool) (t : Str) (b : Str) (i p : Int) (k : Kt) : ev (cfR P (rdSp (.str "\t"))) 60 (zAB s700).names (.sts zAI) { loc := [("self", .obj 0), ("quoted", (.bool q)), ("escapedstate", (.str "a"))], led := zAC (.str "\\") (.str t) i b p [] } k = (sio b p = sio b p ∧ SgAt b p (.str "\t") ∧ (t.length + 1 ≤ sizeLine ∧ k .next { loc := [("self", .obj 0), ("quoted", (.bool q)), ("escapedstate", (.str "a")), ("nextchar", (.str "\t"))], led := zAC (.str "a") (.str (t ++ "\t")) i b (p + 1) [] })) := by
 kernel_rfl
theorem zLK (P : Params) (q : Bool) (t : Str) (b : Str) (i p : Int) (k : Kt) : ev (cfR P (rdSp (.str "\r"))) 60 (zAB s700).names (.sts zAI) { loc := [("self", .obj 0), ("quoted", (.bool q)), ("escapedstate", (.str "a"))], led := zAC (.str "\\") (.str t) i b p [] } k = (sio b p = sio b p ∧ SgAt b p (.str "\r") ∧ (t.length + 1 ≤ sizeLine ∧ k .next { loc := [("self", .obj 0), ("quoted", (.bool q)), ("escapedstate", (.str "a")), ("nextchar", (.str "\r"))], led := zAC (.str "a") (.str (t ++ "\r")) i b (p + 1) [] })) := by
 kernel_rfl
theorem zLH (P : Params) (q : Bool) (t : Str) (b : Str) (i p : Int) (k : Kt) : ev (cfR P (rdSp (.str "'"))) 60 (zAB s700).names (.sts zAI) { loc := [("self", .obj 0), ("quoted", (.bool q)), ("escapedstate", (.str "a"))], led := zAC (.str "\\") (.str t) i b p [] } k = (sio b p = sio b p ∧ SgAt b p (.str "'") ∧ (t.length + 1 ≤ sizeLine ∧ k .next { loc := [("self", .obj 0), ("quoted", (.bool q)), ("escapedstate", (.str "a")), ("nextchar", (.str "'"))], led := zAC (.str "a") (.str (t ++ "'")) i b (p + 1) [] })) := by
 kernel_rfl
theorem zLJ (P : Params) (q : Bool) (t : Str) (b : Str) (i p : Int) (k : Kt) : ev (cfR P (rdSp (.str "\""))) 60 (zAB s700).names (.sts zAI) { loc := [("self", .obj 0), ("quoted", (.bool q)), ("escapedstate", (.str "a"))], led := zAC (.str "\\") (.str t) i b p [] } k = (sio b p = sio b p ∧ SgAt b p (.str "\"") ∧ (t.length + 1 ≤ sizeLine ∧ k .next { loc := [("self", .obj 0), ("quoted", (.bool q)), ("escapedstate", (.str "a")), ("nextchar", (.str "\""))], led := zAC (.str "a") (.str (t ++ "\"")) i b (p + 1) [] })) := by
 kernel_rfl
theorem zLL (P : Params) (q : Bool) (t : Str) (b : Str) (i p : Int) (k : Kt) : ev (cfR P (rdSp (.str "\\"))) 60 (zAB s700).names (.sts zAI) { loc := [("self", .obj 0), ("quoted", (.bool q)), ("escapedstate", (.str "a"))], led := zAC (.str "\\") (.str t) i b p [] } k = (sio b p = sio b p ∧ SgAt b p (.str "\\") ∧ (t.length + 1 ≤ sizeLine ∧ k .next { loc := [("self", .obj 0), ("quoted", (.bool q)), ("escapedstate", (.str "a")), ("nextchar", (.str "\\"))], led := zAC (.str "a") (.str (t ++ "\\")) i b (p + 1) [] })) := by
 kernel_rfl
theorem zGC (P : Params) (c : Nat) (q : Bool) (t : Str) (b : Str) (i p : Int) (k : Kt) : ev (cfR P (rdSp (.sg c esO (fsO true)))) 60 (zAB s700).names (.sts zAI) { loc := [("self", .obj 0), ("quoted", (.bool q)), ("escapedstate", (.str "a"))], led := zAC (.str "\\") (.str t) i b p [] } k = (sio b p = sio b p ∧ SgAt b p (.sg c esO (fsO true)) ∧ (t.length + 1 ≤ sizeLine ∧ k .next { loc := [("self", .obj 0), ("quoted", (.bool q)), ("escapedstate", (.str "a")), ("nextchar", (.sg c esO (fsO true)))], led := zAC (.str "a") (.str (t ++ sgS c)) i b (p + 1) [] })) := by
 kernel_rfl
theorem zFJ (P : Params) (c : Nat) (q : Bool) (t : Str) (b : Str) (i p : Int) (k : Kt) : ev (cfR P (rdSp (.sg c esO (fsO false)))) 60 (zAB s700).names (.sts zAI) { loc := [("self", .obj 0), ("quoted", (.bool q)), ("escapedstate", (.str "a"))], led := zAC (.str "\\") (.str t) i b p [] } k = (sio b p = sio b p ∧ SgAt b p (.sg c esO (fsO false)) ∧ (t.length + 1 ≤ sizeLine ∧ k .next { loc := [("self", .obj 0), ("quoted", (.bool q)), ("escapedstate", (.str "a")), ("nextchar", (.sg c esO (fsO false)))], led := zAC (.str "a") (.str (t ++ sgS c)) i b (p + 1) [] })) := by
 kernel_rfl
theorem zJn (P : Params) (q : Bool) (t : Str) (b : Str) (i p : Int) (k : Kt) : ev (cfR P (rdSp (.str "\n"))) 60 (zAB s700).names (.sts zAI) { loc := [("self", .obj 0), ("quoted", (.bool q)), ("escapedstate", (.str "\""))], led := zAC (.str "\\") (.str t) i b p [] } k = (sio b p = sio b p ∧ SgAt b p (.str "\n") ∧ (t.length + 1 ≤ sizeLine ∧ ((t ++ "\\").length + 1 ≤ sizeLine ∧ k .next { loc := [("self", .obj 0), ("quoted", (.bool q)), ("escapedstate", (.str "\"")), ("nextchar", (.str "\n"))], led := zAC (.str "\"") (.str (t ++ "\\" ++ "\n")) (i + 1) b (p + 1) [] }))) := by
 kernel_rfl
theorem zJr (P : Params) (q : Bool) (t : Str) (b : Str) (i p : Int) (k : Kt) : ev (cfR P (rdSp (.str " "))) 60 (zAB s700).names (.sts zAI) { loc := [("self", .obj 0), ("quoted", (.bool q)), ("escapedstate", (.str "\""))], led := zAC (.str "\\") (.str t) i b p [] } k = (sio b p = sio b p ∧ SgAt b p (.str " ") ∧ (t.length + 1 ≤ sizeLine ∧ ((t ++ "\\").length + 1 ≤ sizeLine ∧ k .next { loc := [("self", .obj 0), ("quoted", (.bool q)), ("escapedstate", (.str "\"")), ("nextchar", (.str " "))], led := zAC (.str "\"") (.str (t ++ "\\" ++ " ")) i b (p + 1) [] }))) := by
 kernel_rfl
theorem zJl (P : Params) (q : Bool) (t : Str) (b : Str) (i p : Int) (k : Kt) : ev (cfR P (rdSp (.str "\t"))) 60 (zAB s700).names (.sts zAI) { loc := [("self", .obj 0), ("quoted", (.bool q)), ("escapedstate", (.str "\""))], led := zAC (.str "\\") (.str t) i b p [] } k = (sio b p = sio b p ∧ SgAt b p (.str "\t") ∧ (t.length + 1 ≤ sizeLine ∧ ((t ++ "\\").length + 1 ≤ sizeLine ∧ k .next { loc := [("self", .obj 0), ("quoted", (.bool q)), ("escapedstate", (.str "\"")), ("nextchar", (.str "\t"))], led := zAC (.str "\"") (.str (t ++ "\\" ++ "\t")) i b (p + 1) [] }))) := by
 kernel_rfl
theorem zJp (P : Params) (q : Bool) (t : Str) (b : Str) (i p : Int) (k : Kt) : ev (cfR P (rdSp (.str "\r"))) 60 (zAB s700).names (.sts zAI) { loc := [("self", .obj 0), ("quoted", (.bool q)), ("escapedstate", (.str "\""))], led := zAC (.str "\\") (.str t) i b p [] } k = (sio b p = sio b p ∧ SgAt b p (.str "\r") ∧ (t.length + 1 ≤ sizeLine ∧ ((t ++ "\\").length + 1 ≤ sizeLine ∧ k .next { loc := [("self", .obj 0), ("quoted", (.bool q)), ("escapedstate", (.str "\"")), ("nextchar", (.str "\r"))], led := zAC (.str "\"") (.str (t ++ "\\" ++ "\r")) i b (p + 1) [] }))) := by
 kernel_rfl
theorem zJm (P : Params) (q : Bool) (t : Str) (b : Str) (i p : Int) (k : Kt) : ev (cfR P (rdSp (.str "'"))) 60 (zAB s700).names (.sts zAI) { loc := [("self", .obj 0), ("quoted", (.bool q)), ("escapedstate", (.str "\""))], led := zAC (.str "\\") (.str t) i b p [] } k = (sio b p = sio b p ∧ SgAt b p (.str "'") ∧ (t.length + 1 ≤ sizeLine ∧ ((t ++ "\\").length + 1 ≤ sizeLine ∧ k .next { loc := [("self", .obj 0), ("quoted", (.bool q)), ("escapedstate", (.str "\"")), ("nextchar", (.str "'"))], led := zAC (.str "\"") (.str (t ++ "\\" ++ "'")) i b (p + 1) [] }))) := by
 kernel_rfl
theorem zJo (P : Params) (q : Bool) (t : Str) (b : Str) (i p : Int) (k : Kt) : ev (cfR P (rdSp (.str "\""))) 60 (zAB s700).names (.sts zAI) { loc := [("self", .obj 0), ("quoted", (.bool q)), ("escapedstate", (.str "\""))], led := zAC (.str "\\") (.str t) i b p [] } k = (sio b p = sio b p ∧ SgAt b p (.str "\"") ∧ (t.length + 1 ≤ sizeLine ∧ k .next { loc := [("self", .obj 0), ("quoted", (.bool q)), ("escapedstate", (.str "\"")), ("nextchar", (.str "\""))], led := zAC (.str "\"") (.str (t ++ "\"")) i b (p + 1) [] })) := by
 kernel_rfl
theorem zJq (P : Params) (q : Bool) (t : Str) (b : Str) (i p : Int) (k : Kt) : ev (cfR P (rdSp (.str "\\"))) 60 (zAB s700).names (.sts zAI) { loc := [("self", .obj 0), ("quoted", (.bool q)), ("escapedstate", (.str "\""))], led := zAC (.str "\\") (.str t) i b p [] } k = (sio b p = sio b p ∧ SgAt b p (.str "\\") ∧ (t.length + 1 ≤ sizeLine ∧ k .next { loc := [("self", .obj 0), ("quoted", (.bool q)), ("escapedstate", (.str "\"")), ("nextchar", (.str "\\"))], led := zAC (.str "\"") (.str (t ++ "\\")) i b (p + 1) [] })) := by
 kernel_rfl
theorem zFI (P : Params) (c : Nat) (q : Bool) (t : Str) (b : Str) (i p : Int) (k : Kt) : ev (cfR P (rdSp (.sg c esO (fsO true)))) 60 (zAB s700).names (.sts zAI) { loc := [("self", .obj 0), ("quoted", (.bool q)), ("escapedstate", (.str "\""))], led := zAC (.str "\\") (.str t) i b p [] } k = (sio b p = sio b p ∧ SgAt b p (.sg c esO (fsO true)) ∧ (t.length + 1 ≤ sizeLine ∧ ((t ++ "\\").length + 1 ≤ sizeLine ∧ k .next { loc := [("self", .obj 0), ("quoted", (.bool q)), ("escapedstate", (.str "\"")), ("nextchar", (.sg c esO (fsO true)))], led := zAC (.str "\"") (.str (t ++ "\\" ++ sgS c)) i b (p + 1) [] }))) := by
 kernel_rfl
theorem zEF (P : Params) (c : Nat) (q : Bool) (t : Str) (b : Str) (i p : Int) (k : Kt) : ev (cfR P (rdSp (.sg c esO (fsO false)))) 60 (zAB s700).names (.sts zAI) { loc := [("self", .obj 0), ("quoted", (.bool q)), ("escapedstate", (.str "\""))], led := zAC (.str "\\") (.str t) i b p [] } k = (sio b p = sio b p ∧ SgAt b p (.sg c esO (fsO false)) ∧ (t.length + 1 ≤ sizeLine ∧ ((t ++ "\\").length + 1 ≤ sizeLine ∧ k .next { loc := [("self", .obj 0), ("quoted", (.bool q)), ("escapedstate", (.str "\"")), ("nextchar", (.sg c esO (fsO false)))], led := zAC (.str "\"") (.str (t ++ "\\" ++ sgS c)) i b (p + 1) [] }))) := by
 kernel_rfl
noncomputable def tx (l : List Nat) : Str := ⟨l.toArray⟩
theorem zAF (l : List Nat) : (tx l).length = l.length := by simp [tx, Str.length]
theorem zEB (c : Nat) : tx [c] = sgS c := rfl
theorem zAL (a b : List Nat) : tx a ++ tx b = tx (a ++ b) := by
 show Str.mk _ = Str.mk _
 simp [tx]
theorem zDu (l : List Nat) {a b : Nat} (hab : a ≤ b) (hb : b ≤ l.length) : Txt.slice (tx l) (some (a : Int)) (some (b : Int)) = tx ((l.drop a).take (b - a)) := by
 unfold Txt.slice
 have hl : (tx l).length = l.length := zAF l
 have len : (PySem.Builtin.Str.strSliceIndices (some (a : Int)) (some (b : Int)) 1 (tx l).length).length = b - a := by
  rw [StrLaws.strSliceIndices_plain hab (by rw [hl]; exact hb)]; simp
 split
 ·rename_i h
  rw [Bool.and_eq_true] at h
  have e := eq_of_beq h.2
  rw [len, hl] at e
  have h1 : a = 0 := by omega
  have h2 : b - a = l.length := e
  subst h1
  rw [h2, List.drop_zero, List.take_length]
 ·rw [StrLaws.sliced_plain (tx l) hab (by rw [hl]; exact hb)]
  rfl
theorem zJH (pre : List Nat) (c : Nat) (r : List Nat) : Txt.slice (tx (pre ++ c :: r)) (some (pre.length : Int)) (some ((pre.length : Int) + 1)) = sgS c := by
 have := zDu (pre ++ c :: r) (a := pre.length) (b := pre.length + 1) (by lia) (by simp)
 rw [show ((pre.length + 1 : Nat) : Int) = (pre.length : Int) + 1 by lia] at this
 rw [this, List.drop_left, Nat.add_sub_cancel_left, List.take_succ_cons, List.take_zero]
 rfl
inductive LQ where
 | sp | a | sq | dq | ea | ed
noncomputable def LQ.sv : LQ → SV
 | .sp => .str " "
 | .a => .str "a"
 | .sq => .str "'"
 | .dq => .str "\""
 | .ea => .str "\\"
 | .ed => .str "\\"
noncomputable def ws (c : Nat) : Bool := c == 32 || c == 9 || c == 13 || c == 10
noncomputable def nl (c : Nat) : Int := if c = 10 then 1 else 0
structure LR where
 q : Option LQ
 quoted : Bool
 tok : List Nat
 e : Str
 line : Int
 rest : List Nat
noncomputable def go : List Nat → LQ → Bool → List Nat → Str → Int → Option LR
 | [], .sp, _, _, e, i => some ⟨none, false, [], e, i, []⟩
 | [], .a, q, t, e, i => some ⟨none, q, t, e, i, []⟩
 | [], _, _, _, _, _ => none
 | c :: r, .sp, _, _, e, i =>
  if ws c then go r .sp false [] e (i + nl c)
  else if c = 39 then go r .sq false [] e i
  else if c = 34 then go r .dq false [] e i
  else if c = 92 then go r .ea false [] "a" i
  else go r .a false [c] e i
 | c :: r, .a, q, t, e, i =>
  if ws c then (if t ≠ [] ∨ q = true then some ⟨some .sp, q, t, e, i + nl c, r⟩ else go r .sp false [] e (i + nl c))
  else if c = 39 then go r .sq q t e i
  else if c = 34 then go r .dq q t e i
  else if c = 92 then go r .ea q t "a" i
  else go r .a q (t ++ [c]) e i
 | c :: r, .sq, _, t, e, i => if c = 39 then go r .a true t e i else go r .sq true (t ++ [c]) e (i + nl c)
 | c :: r, .dq, _, t, e, i => if c = 34 then go r .a true t e i else if c = 92 then go r .ed true t "\"" i else go r .dq true (t ++ [c]) e (i + nl c)
 | c :: r, .ea, q, t, _, i => go r .a q (t ++ [c]) "a" (i + nl c)
 | c :: r, .ed, q, t, _, i => if c = 92 ∨ c = 34 then go r .dq q (t ++ [c]) "\"" (i + nl c) else go r .dq q (t ++ [92, c]) "\"" (i + nl c)
theorem zIy {loc more : List (Str × SV)} {sv : SV} {t b : Str} {i p : Int} {extra : List SO} (hs : zAe sv) (hl : okF 4 loc) :
  Trim 4 ⟨loc ++ more, zAC sv (.str t) i b p extra⟩ ⟨loc, zAC sv (.str t) i b p []⟩ := by
 have h4 := zPX (n := 4) hs
 refine ⟨fun x y h => ⟨y, zEa h, zGD (zEV hl _ (zCX h))⟩, ?_⟩
 have e1 : ∀ k, k < 4 → okV 4 (.obj k) := fun k h => h
 refine .cons (.inst (zEp ?_)) (.cons (.inst (zEp ?_)) (.cons .raw (.cons .raw .nil)))
 ·exact ⟨e1 1 (by lia), trivial, trivial, trivial, trivial, trivial, trivial, trivial, trivial, trivial, trivial, h4, e1 2 (by lia), trivial, trivial, trivial, e1 3 (by lia), trivial, trivial, trivial⟩
 ·exact ⟨trivial, trivial, trivial, trivial⟩
theorem zDS (c : Nat) (b : Str) : inB (sgS c) b = decide (c ∈ b.cps.toList) := StrLaws.found_one b c
theorem zGI (c d : Nat) : Fast.sEq (sgS c) (sgS d) = decide (c = d) := by
 rw [← zBX]
 by_cases h : c = d
 ·subst h; simp
 ·rw [decide_eq_false h]
  refine beq_eq_false_iff_ne.mpr fun e => h ?_
  have : (sgS c).cps = (sgS d).cps := by rw [e]
  simpa [sgS] using this
noncomputable def isW (c : Nat) : Bool := inB (sgS c) wch
theorem zCv : ("\n" : Str) = sgS 10 := by decide +kernel
theorem zDg : (" " : Str) = sgS 32 := by decide +kernel
theorem zDc : ("\t" : Str) = sgS 9 := by decide +kernel
theorem zDf : ("\r" : Str) = sgS 13 := by decide +kernel
theorem zDd : ("'" : Str) = sgS 39 := by decide +kernel
theorem zDe : ("\"" : Str) = sgS 34 := by decide +kernel
theorem zCY : ("\\" : Str) = sgS 92 := by decide +kernel
structure Other (c : Nat) : Prop where
 nl : c ≠ 10
 bl : c ≠ 32
 tb : c ≠ 9
 cr : c ≠ 13
 sq : c ≠ 39
 dq : c ≠ 34
 bs : c ≠ 92
theorem zTH : (" \t\r\n" : Str).cps.toList = [32, 9, 13, 10] := by decide +kernel
theorem zTJ : ("" : Str).cps.toList = [] := by decide +kernel
theorem zTK : ("\\" : Str).cps.toList = [92] := by decide +kernel
theorem zTI : ("'\"" : Str).cps.toList = [39, 34] := by decide +kernel
theorem zBx {pre r : List Nat} {c : Nat} (o : Other c) : SgAt (tx (pre ++ c :: r)) pre.length (.sg c esO (fsO (isW c))) := by
 refine ⟨by lia, by rw [zAF]; simp; lia, by rw [zJH]; rfl, ?_, ?_⟩
 ·refine zAA ?_ (zAA ?_ (zAA ?_ (zAA ?_ zAD)))
  ·show Fast.sEq (sgS c) "\n" = false; rw [zCv, zGI]; exact decide_eq_false o.nl
  ·show Fast.sEq (sgS c) "'" = false; rw [zDd, zGI]; exact decide_eq_false o.sq
  ·show Fast.sEq (sgS c) "\"" = false; rw [zDe, zGI]; exact decide_eq_false o.dq
  ·show Fast.sEq (sgS c) "\\" = false; rw [zCY, zGI]; exact decide_eq_false o.bs
 ·refine zAA ?_ (zAA ?_ (zAA ?_ (zAA ?_ (zAA ?_ zAD))))
  ·show inB (sgS c) " \t\r\n" = false; rw [zDS, zTH]; exact decide_eq_false (by simp [o.nl, o.bl, o.tb, o.cr])
  ·show inB (sgS c) "" = false; rw [zDS, zTJ]; exact decide_eq_false (by simp)
  ·show inB (sgS c) "\\" = false; rw [zDS, zTK]; exact decide_eq_false (by simp [o.bs])
  ·rfl
  ·show inB (sgS c) "'\"" = false; rw [zDS, zTI]; exact decide_eq_false (by simp [o.sq, o.dq])
theorem zAQ {pre r : List Nat} {c : Nat} {s : Str} (e : s = sgS c) : SgAt (tx (pre ++ c :: r)) pre.length (.str s) := by
 refine ⟨by lia, by rw [zAF]; simp; lia, by rw [zJH, ← e]; rfl, trivial⟩
theorem cokR (w : World) (e : SpE) (he : SpOk w (cfR w.params e) e) : CfOk w (cfR w.params e) where
 fns := zAA ⟨zPk _, by kernel_rfl, zAP (by kernel_rfl)⟩ <| zAD
 cls := zAA (zFq _) <| zAA (zHp _) <| zAD
 globs := zAn (zMl _)
 sps := zAA he zAD
 hxs := zAD
 hss := zAD
noncomputable def zTQ : Stmt → Expr
 | .While t _ _ _ => t
 | _ => default
noncomputable def zCC : Expr := zTQ (stAt 2 (zAG s700))
section
variable {w : World} {F : Fm} {ads : Wd} {s : Shared} {Q : CR → Shared → Prop} {E : Value → Shared → Prop}
theorem zLF (P : Params) (e : SpE) (ns : List (Str × NameKind)) (st : St) (k : Kt) : ev (cfR P e) 60 ns (.tr zCC) st k = k (.b true) st := by kernel_rfl
theorem zON {e : SpE} (he : SpOk w (cfR w.params e) e) (hF : F.sc.names = (zAB s700).names) (ok : FmOk (cfR w.params e) F) (hd : F.A.depth + 60 < recursionLimit) (hu : F.A.units + 8 * 60 < cLine) {st st' st'' : St} {r : SR} (hr : r = .next ∨ r = .cont)
  (hev : ∀ k : Kt, k r st' → ev (cfR w.params e) 60 (zAB s700).names (.sts zAI) st k) (hl : st.led.length = 4) (tr : Trim 4 st' st'') (R : Rep w F ads st s.heap)
  (next : ∀ z s', Rep w F (wa ads (⟨[], z⟩ : Wd)) st'' s'.heap → Nx F s s' → Goal w F (.wl zCC zAI) Q E s') : Goal w F (.wl zCC zAI) Q E s := by
 refine zKw (K := fun r' x => r' = r ∧ x = st'') (cokR w e he) ok hd hu (by rw [zLF]; exact ⟨rfl, rfl⟩) (by rw [hF]; exact hev _ ⟨st'', by rw [hl]; exact tr, rfl, rfl⟩) R ?_ ?_ ?_
 ·rintro r' x ⟨rfl, rfl⟩
  rcases hr with h | h
  ·exact .inl h
  ·exact .inr (.inl h)
 ·rintro x z s' h R' nx
  rcases h with ⟨_, rfl⟩ | ⟨_, rfl⟩ <;> exact next z s' R' nx
 ·rintro x z s' ⟨h, _⟩
  rcases hr with h' | h' <;> rw [h'] at h <;> cases h
theorem zMJ {e : SpE} (he : SpOk w (cfR w.params e) e) (hF : F.sc.names = (zAB s700).names) (ok : FmOk (cfR w.params e) F) (hd : F.A.depth + 60 < recursionLimit) (hu : F.A.units + 8 * 60 < cLine) {st st' st'' : St}
  (hev : ∀ k : Kt, k .brk st' → ev (cfR w.params e) 60 (zAB s700).names (.sts zAI) st k) (hl : st.led.length = 4) (tr : Trim 4 st' st'') (R : Rep w F ads st s.heap)
  (brk : ∀ z s', Rep w F (wa ads (⟨[], z⟩ : Wd)) st'' s'.heap → Nx F s s' → Q (.fl .next) s') : Goal w F (.wl zCC zAI) Q E s := by
 refine zKw (K := fun r' x => r' = .brk ∧ x = st'') (cokR w e he) ok hd hu (by rw [zLF]; exact ⟨rfl, rfl⟩) (by rw [hF]; exact hev _ ⟨st'', by rw [hl]; exact tr, rfl, rfl⟩) R ?_ ?_ ?_
 ·rintro r' x ⟨rfl, rfl⟩
  exact .inr (.inr rfl)
 ·rintro x z s' h R' nx
  rcases h with ⟨h, _⟩ | ⟨h, _⟩ <;> cases h
 ·rintro x z s' ⟨_, rfl⟩ R' nx
  exact brk z s' R' nx
end
noncomputable abbrev lst (q : SV) (quoted : Bool) (t : List Nat) (e : Str) (i : Int) (b : Str) (p : Int) : St := ⟨[("self", .obj 0), ("quoted", .bool quoted), ("escapedstate", .str e)], zAC q (.str (tx t)) i b p []⟩
noncomputable def svq : Option LQ → SV
 | none => .none
 | some q => q.sv
noncomputable def escN : LQ → Nat
 | .ea => 1
 | .ed => 1
 | _ => 0
theorem zAx : ("" : Str) = tx [] := by decide +kernel
theorem zAE (q : LQ) : zAe q.sv := by cases q <;> trivial
theorem zAo (t : List Nat) (c : Nat) : tx t ++ sgS c = tx (t ++ [c]) := zAL t [c]
theorem zFy {c : Nat} (h : ws c = true) : c = 32 ∨ c = 9 ∨ c = 13 ∨ c = 10 := by
 unfold ws at h
 simpa only [Bool.or_eq_true, beq_iff_eq, or_assoc] using h
theorem zPY {c : Nat} (h : ¬ ws c = true) : c ≠ 32 ∧ c ≠ 9 ∧ c ≠ 13 ∧ c ≠ 10 :=
 ⟨fun e => h (by subst e; rfl), fun e => h (by subst e; rfl), fun e => h (by subst e; rfl), fun e => h (by subst e; rfl)⟩
section
variable {w : World} {F : Fm} {ads : Wd} {s : Shared} {Q : CR → Shared → Prop} {E : Value → Shared → Prop}
structure LexOk (w : World) (F : Fm) : Prop where
 names : F.sc.names = (zAB s700).names
 fm : FmOk (cf0 w.params) F
 d : F.A.depth + 60 < recursionLimit
 u : F.A.units + 8 * 60 < cLine
theorem zAH (L : LexOk w F) (x : SV) {q : SV} (q' : SV) (hq : zAe q') {quoted : Bool} (quoted' : Bool) {t : List Nat} (t' : List Nat) {e : Str} (e' : Str) {b : Str} {i : Int} (i' : Int) {p : Int} (p' : Int) (extra : List SO) {r : SR} (hr : r = .next ∨ r = .cont)
  (hev : ∀ k : Kt, k r ⟨[("self", .obj 0), ("quoted", .bool quoted'), ("escapedstate", .str e'), ("nextchar", x)], zAC q' (.str (tx t')) i' b p' extra⟩ → ev (cfR w.params (rdSp x)) 60 (zAB s700).names (.sts zAI) (lst q quoted t e i b p) k)
  (R : Rep w F ads (lst q quoted t e i b p) s.heap)
  (next : ∀ z s', Rep w F (wa ads (⟨[], z⟩ : Wd)) (lst q' quoted' t' e' i' b p') s'.heap → Nx F s s' → Goal w F (.wl zCC zAI) Q E s') : Goal w F (.wl zCC zAI) Q E s :=
 zON (e := rdSp x) (zSG rfl rfl x) L.names (zAY (C := cf0 w.params) rfl L.fm (fun _ => rfl)) L.d L.u hr hev rfl (zIy (loc := [("self", .obj 0), ("quoted", .bool quoted'), ("escapedstate", .str e')]) (more := [("nextchar", x)]) hq ⟨by show 0 < 4; lia, trivial, trivial, trivial⟩) R next
theorem zMK (L : LexOk w F) {q : SV} (q' : SV) (hq : zAe q') {quoted : Bool} (quoted' : Bool) {t : List Nat} (t' : List Nat) {e : Str} (e' : Str) {b : Str} {i : Int} (i' : Int) {p : Int} (p' : Int) (extra : List SO)
  (hev : ∀ k : Kt, k .brk ⟨[("self", .obj 0), ("quoted", .bool quoted'), ("escapedstate", .str e'), ("nextchar", .str "")], zAC q' (.str (tx t')) i' b p' extra⟩ → ev (cfR w.params rdEnd) 60 (zAB s700).names (.sts zAI) (lst q quoted t e i b p) k)
  (R : Rep w F ads (lst q quoted t e i b p) s.heap)
  (brk : ∀ z s', Rep w F (wa ads (⟨[], z⟩ : Wd)) (lst q' quoted' t' e' i' b p') s'.heap → Nx F s s' → Q (.fl .next) s') : Goal w F (.wl zCC zAI) Q E s :=
 zMJ (e := rdEnd) (zOB rfl rfl) L.names (zAY (C := cf0 w.params) rfl L.fm (fun _ => rfl)) L.d L.u hev rfl (zIy (loc := [("self", .obj 0), ("quoted", .bool quoted'), ("escapedstate", .str e')]) (more := [("nextchar", .str "")]) hq ⟨by show 0 < 4; lia, trivial, trivial, trivial⟩) R brk
theorem zJY (L : LexOk w F) (x : SV) {q : SV} (q' : SV) (hq : zAe q') {quoted : Bool} (quoted' : Bool) {t : List Nat} (t' : List Nat) {e : Str} (e' : Str) {b : Str} {i : Int} (i' : Int) {p : Int} (p' : Int) (extra : List SO)
  (hev : ∀ k : Kt, k .brk ⟨[("self", .obj 0), ("quoted", .bool quoted'), ("escapedstate", .str e'), ("nextchar", x)], zAC q' (.str (tx t')) i' b p' extra⟩ → ev (cfR w.params (rdSp x)) 60 (zAB s700).names (.sts zAI) (lst q quoted t e i b p) k)
  (R : Rep w F ads (lst q quoted t e i b p) s.heap)
  (brk : ∀ z s', Rep w F (wa ads (⟨[], z⟩ : Wd)) (lst q' quoted' t' e' i' b p') s'.heap → Nx F s s' → Q (.fl .next) s') : Goal w F (.wl zCC zAI) Q E s :=
 zMJ (e := rdSp x) (zSG rfl rfl x) L.names (zAY (C := cf0 w.params) rfl L.fm (fun _ => rfl)) L.d L.u hev rfl (zIy (loc := [("self", .obj 0), ("quoted", .bool quoted'), ("escapedstate", .str e')]) (more := [("nextchar", x)]) hq ⟨by show 0 < 4; lia, trivial, trivial, trivial⟩) R brk
end
theorem zNd (t : List Nat) : tx t ++ ("\n" : Str) = tx (t ++ [10]) := by rw [zCv]; exact zAo t 10
theorem zNf (t : List Nat) : tx t ++ (" " : Str) = tx (t ++ [32]) := by rw [zDg]; exact zAo t 32
theorem zNc (t : List Nat) : tx t ++ ("\t" : Str) = tx (t ++ [9]) := by rw [zDc]; exact zAo t 9
theorem zNe (t : List Nat) : tx t ++ ("\r" : Str) = tx (t ++ [13]) := by rw [zDf]; exact zAo t 13
theorem zQT (t : List Nat) : tx t ++ ("'" : Str) = tx (t ++ [39]) := by rw [zDd]; exact zAo t 39
theorem zQU (t : List Nat) : tx t ++ ("\"" : Str) = tx (t ++ [34]) := by rw [zDe]; exact zAo t 34
theorem zCB (t : List Nat) : tx t ++ ("\\" : Str) = tx (t ++ [92]) := by rw [zCY]; exact zAo t 92
structure LInv (q : LQ) (quoted : Bool) (t : List Nat) (e : Str) (n : Nat) : Prop where
 sp : q = .sp → quoted = false ∧ t = []
 ea : q = .ea → e = "a"
 ed : q = .ed → e = "\""
 len : t.length + escN q ≤ n
theorem LInv.to {q' : LQ} {quoted' : Bool} {t' : List Nat} {e' : Str} {n : Nat} (ok : match q' with
  | .sp => quoted' = false ∧ t' = []
  | .ea => e' = "a"
  | .ed => e' = "\""
  | _ => True) (len : t'.length + escN q' ≤ n) : LInv q' quoted' t' e' n :=
 ⟨fun h => by subst h; exact ok, fun h => by subst h; exact ok, fun h => by subst h; exact ok, len⟩
theorem zAq (q : LQ) : escN q ≤ 1 := by cases q <;> decide
theorem ln0 {a n : Nat} (h : a ≤ 1) : ([] : List Nat).length + a ≤ n + 1 := by simp; lia
theorem ln1 {c n : Nat} : ([c] : List Nat).length + 0 ≤ n + 1 := by simp
theorem lnT {t : List Nat} {a b n : Nat} (h : t.length + a ≤ n) (hb : b ≤ 1) : t.length + b ≤ n + 1 := by lia
theorem lnS {t : List Nat} {c a n : Nat} (h : t.length + a ≤ n) : (t ++ [c]).length + 0 ≤ n + 1 := by simp; lia
theorem lnD {t : List Nat} {x c n : Nat} (h : t.length + 1 ≤ n) : (t ++ [x, c]).length + 0 ≤ n + 1 := by simp; omega
theorem zCr (a r : Nat) : (((a + (r + 1) - r : Nat)) : Int) = (a : Int) + 1 := by lia
section
variable {w : World} {F : Fm} {Q : CR → Shared → Prop} {E : Value → Shared → Prop}
theorem zRC (L : LexOk w F) : ∀ (rest pre : List Nat) (q : LQ) (quoted : Bool) (t : List Nat) (e : Str) (i : Int) (lr : LR) (ads : Wd) (s : Shared), go rest q quoted t e i = some lr → LInv q quoted t e pre.length → (pre ++ rest).length ≤ sizeLine →
  Rep w F ads (lst q.sv quoted t e i (tx (pre ++ rest)) pre.length) s.heap →
  (∀ z s', Rep w F (wa ads (⟨[], z⟩ : Wd)) (lst (svq lr.q) lr.quoted lr.tok lr.e lr.line (tx (pre ++ rest)) ((pre ++ rest).length - lr.rest.length : Nat)) s'.heap → Nx F s s' → Q (.fl .next) s') → Goal w F (.wl zCC zAI) Q E s := by
 intro rest
 induction rest with
 | nil =>
  intro pre q quoted t e i lr ads s hg inv hlen R fin
  cases q with
  | sp =>
   obtain ⟨rfl, rfl⟩ := inv.sp rfl
   simp only [go, Option.some.injEq] at hg
   subst hg
   refine zMK L .none trivial false [] e i pre.length [] (fun k hk => ?_) R (fun z s' R' nx => fin z s' ?_ nx)
   ·show ev _ _ _ _ ⟨_, zAC (.str " ") (.str (tx [])) _ _ _ _⟩ _
    rw [← zAx, zNR]
    exact ⟨rfl, by rw [zAF]; simp, by rw [zAx]; exact hk⟩
   ·simpa [svq] using R'
  | a =>
   simp only [go, Option.some.injEq] at hg
   subst hg
   refine zMK L .none trivial quoted t e i pre.length [.tup [.str "a", .str "c"]] (fun k hk => ?_) R (fun z s' R' nx => fin z s' ?_ nx)
   ·show ev _ _ _ _ ⟨_, zAC (.str "a") (.str (tx t)) _ _ _ _⟩ _
    exact Eq.mpr (zQR ..) ⟨rfl, by rw [zAF]; simp, hk⟩
   ·simpa [svq] using R'
  | _ => simp [go] at hg
 | cons c r ih =>
  intro pre q quoted t e i lr ads s hg inv hlen R fin
  have nx : ∀ (q' : LQ) (quoted' : Bool) (t' : List Nat) (e' : Str) (i' : Int), go r q' quoted' t' e' i' = some lr → LInv q' quoted' t' e' (pre.length + 1) → ∀ z s', Rep w F (wa ads (⟨[], z⟩ : Wd)) (lst q'.sv quoted' t' e' i' (tx (pre ++ c :: r)) ((pre.length : Int) + 1)) s'.heap → Nx F s s' → Goal w F (.wl zCC zAI) Q E s' := by
   intro q' quoted' t' e' i' hg' inv' z s' R' nx'
   have e1 : (pre ++ [c]) ++ r = pre ++ c :: r := by simp
   have e2 : (((pre ++ [c]).length : Nat) : Int) = (pre.length : Int) + 1 := by simp
   refine ih (pre ++ [c]) q' quoted' t' e' i' lr (wa ads (⟨[], z⟩ : Wd)) s' hg' (by simpa using inv') (by rw [e1]; exact hlen) (by rw [e1, e2]; exact R') fun z' s'' R'' nx'' => ?_
   rw [e1, Wd.append_assoc] at R''
   exact fin (z ++ z') s'' R'' (nx'.trans nx'')
  cases q with
  | sp =>
   obtain ⟨rfl, rfl⟩ := inv.sp rfl
   by_cases hw : ws c = true
   ·rcases zFy hw with rfl | rfl | rfl | rfl
    ·replace hg : go r .sp false [] e (i + 0) = some lr := hg
     rw [Int.add_zero] at hg
     refine zAH L (.str " ") LQ.sp.sv (zAE .sp) false [] e i ((pre.length : Int) + 1) [] (r := .cont) (.inr rfl) (fun k hk => ?_) R (nx .sp false [] e i hg ?_)
     ·show ev _ _ _ _ ⟨_, zAC (.str " ") (.str (tx [])) _ _ _ _⟩ _
      rw [← zAx, zQJ]
      exact ⟨rfl, zAQ zDg, by rw [zAx]; exact hk⟩
     ·exact LInv.to ⟨rfl, rfl⟩ (ln0 (zAq _))
    ·replace hg : go r .sp false [] e (i + 0) = some lr := hg
     rw [Int.add_zero] at hg
     refine zAH L (.str "\t") LQ.sp.sv (zAE .sp) false [] e i ((pre.length : Int) + 1) [] (r := .cont) (.inr rfl) (fun k hk => ?_) R (nx .sp false [] e i hg ?_)
     ·show ev _ _ _ _ ⟨_, zAC (.str " ") (.str (tx [])) _ _ _ _⟩ _
      rw [← zAx, zQD]
      exact ⟨rfl, zAQ zDc, by rw [zAx]; exact hk⟩
     ·exact LInv.to ⟨rfl, rfl⟩ (ln0 (zAq _))
    ·replace hg : go r .sp false [] e (i + 0) = some lr := hg
     rw [Int.add_zero] at hg
     refine zAH L (.str "\r") LQ.sp.sv (zAE .sp) false [] e i ((pre.length : Int) + 1) [] (r := .cont) (.inr rfl) (fun k hk => ?_) R (nx .sp false [] e i hg ?_)
     ·show ev _ _ _ _ ⟨_, zAC (.str " ") (.str (tx [])) _ _ _ _⟩ _
      rw [← zAx, zQH]
      exact ⟨rfl, zAQ zDf, by rw [zAx]; exact hk⟩
     ·exact LInv.to ⟨rfl, rfl⟩ (ln0 (zAq _))
    ·replace hg : go r .sp false [] e (i + 1) = some lr := hg
     refine zAH L (.str "\n") LQ.sp.sv (zAE .sp) false [] e (i + 1) ((pre.length : Int) + 1) [] (r := .cont) (.inr rfl) (fun k hk => ?_) R (nx .sp false [] e (i + 1) hg ?_)
     ·show ev _ _ _ _ ⟨_, zAC (.str " ") (.str (tx [])) _ _ _ _⟩ _
      rw [← zAx, zQF]
      exact ⟨rfl, zAQ zCv, by rw [zAx]; exact hk⟩
     ·exact LInv.to ⟨rfl, rfl⟩ (ln0 (zAq _))
   ·obtain ⟨w1, w2, w3, w4⟩ := zPY hw
    by_cases h39 : c = 39
    ·subst h39
     replace hg : go r .sq false [] e i = some lr := hg
     refine zAH L (.str "'") LQ.sq.sv (zAE .sq) false [] e i ((pre.length : Int) + 1) [] (r := .next) (.inl rfl) (fun k hk => ?_) R (nx .sq false [] e i hg ?_)
     ·show ev _ _ _ _ ⟨_, zAC (.str " ") (.str (tx [])) _ _ _ _⟩ _
      rw [← zAx, zQE]
      exact ⟨rfl, zAQ zDd, by rw [zAx]; exact hk⟩
     ·exact LInv.to trivial (ln0 (zAq _))
    by_cases h34 : c = 34
    ·subst h34
     replace hg : go r .dq false [] e i = some lr := hg
     refine zAH L (.str "\"") LQ.dq.sv (zAE .dq) false [] e i ((pre.length : Int) + 1) [] (r := .next) (.inl rfl) (fun k hk => ?_) R (nx .dq false [] e i hg ?_)
     ·show ev _ _ _ _ ⟨_, zAC (.str " ") (.str (tx [])) _ _ _ _⟩ _
      rw [← zAx, zQG]
      exact ⟨rfl, zAQ zDe, by rw [zAx]; exact hk⟩
     ·exact LInv.to trivial (ln0 (zAq _))
    by_cases h92 : c = 92
    ·subst h92
     replace hg : go r .ea false [] "a" i = some lr := hg
     refine zAH L (.str "\\") LQ.ea.sv (zAE .ea) false [] "a" i ((pre.length : Int) + 1) [] (r := .next) (.inl rfl) (fun k hk => ?_) R (nx .ea false [] "a" i hg ?_)
     ·show ev _ _ _ _ ⟨_, zAC (.str " ") (.str (tx [])) _ _ _ _⟩ _
      rw [← zAx, zQI]
      exact ⟨rfl, zAQ zCY, by rw [zAx]; exact hk⟩
     ·exact LInv.to rfl (ln0 (zAq _))
    have ho : Other c := ⟨w4, w1, w2, w3, h39, h34, h92⟩
    simp [go, hw, h39, h34, h92] at hg
    cases hW : isW c
    ·have sg := zBx (pre := pre) (r := r) ho
     rw [hW] at sg
     refine zAH L (.sg c esO (fsO false)) LQ.a.sv (zAE .a) false [c] e i ((pre.length : Int) + 1) [] (r := .next) (.inl rfl) (fun k hk => ?_) R (nx .a false [c] e i hg ?_)
     ·show ev _ _ _ _ ⟨_, zAC (.str " ") (.str (tx [])) _ _ _ _⟩ _
      rw [← zAx, zGr]
      exact ⟨rfl, sg, hk⟩
     ·exact LInv.to trivial ln1
    ·have sg := zBx (pre := pre) (r := r) ho
     rw [hW] at sg
     refine zAH L (.sg c esO (fsO true)) LQ.a.sv (zAE .a) false [c] e i ((pre.length : Int) + 1) [] (r := .next) (.inl rfl) (fun k hk => ?_) R (nx .a false [c] e i hg ?_)
     ·show ev _ _ _ _ ⟨_, zAC (.str " ") (.str (tx [])) _ _ _ _⟩ _
      rw [← zAx, zIH]
      exact ⟨rfl, sg, hk⟩
     ·exact LInv.to trivial ln1
  | a =>
   by_cases hw : ws c = true
   ·by_cases htq : t ≠ [] ∨ quoted = true
    ·have hb : ∀ A B : Prop, A → ifT (((tx t).length : Int) != 0) A (ifT quoted A B) := by
      intro A B a
      cases h1 : (((tx t).length : Int) != 0) with
      | true => exact a
      | false =>
       have : t = [] := by
        have z := bne_eq_false_iff_eq.mp h1
        rw [zAF] at z
        exact List.length_eq_zero_iff.mp (by lia)
       rcases htq with q | q
       ·exact (q this).elim
       ·rw [q]; exact a
     rcases zFy hw with rfl | rfl | rfl | rfl
     ·simp only [go, hw, if_true, if_pos htq, Option.some.injEq] at hg
      subst hg
      refine zJY L (.str " ") LQ.sp.sv (zAE .sp) quoted t e i ((pre.length : Int) + 1) [.tup [.str "a", .str "c"]] (fun k hk => ?_) R (fun z s' R' nx' => fin z s' ?_ nx')
      ·show ev _ _ _ _ ⟨_, zAC (.str "a") (.str (tx t)) _ _ _ _⟩ _
       exact Eq.mpr (zPQ ..) ⟨rfl, zAQ zDg, hb _ _ hk⟩
      ·simpa [svq, nl, zCr] using R'
     ·simp only [go, hw, if_true, if_pos htq, Option.some.injEq] at hg
      subst hg
      refine zJY L (.str "\t") LQ.sp.sv (zAE .sp) quoted t e i ((pre.length : Int) + 1) [.tup [.str "a", .str "c"]] (fun k hk => ?_) R (fun z s' R' nx' => fin z s' ?_ nx')
      ·show ev _ _ _ _ ⟨_, zAC (.str "a") (.str (tx t)) _ _ _ _⟩ _
       exact Eq.mpr (zPN ..) ⟨rfl, zAQ zDc, hb _ _ hk⟩
      ·simpa [svq, nl, zCr] using R'
     ·simp only [go, hw, if_true, if_pos htq, Option.some.injEq] at hg
      subst hg
      refine zJY L (.str "\r") LQ.sp.sv (zAE .sp) quoted t e i ((pre.length : Int) + 1) [.tup [.str "a", .str "c"]] (fun k hk => ?_) R (fun z s' R' nx' => fin z s' ?_ nx')
      ·show ev _ _ _ _ ⟨_, zAC (.str "a") (.str (tx t)) _ _ _ _⟩ _
       exact Eq.mpr (zPP ..) ⟨rfl, zAQ zDf, hb _ _ hk⟩
      ·simpa [svq, nl, zCr] using R'
     ·simp only [go, hw, if_true, if_pos htq, Option.some.injEq] at hg
      subst hg
      refine zJY L (.str "\n") LQ.sp.sv (zAE .sp) quoted t e (i + 1) ((pre.length : Int) + 1) [.tup [.str "a", .str "c"]] (fun k hk => ?_) R (fun z s' R' nx' => fin z s' ?_ nx')
      ·show ev _ _ _ _ ⟨_, zAC (.str "a") (.str (tx t)) _ _ _ _⟩ _
       exact Eq.mpr (zPO ..) ⟨rfl, zAQ zCv, hb _ _ hk⟩
      ·simpa [svq, nl, zCr] using R'
    ·have htq' : t = [] ∧ quoted = false := by
      refine ⟨Classical.byContradiction fun q => htq (.inl q), ?_⟩
      cases quoted with
      | false => rfl
      | true => exact (htq (.inr rfl)).elim
     obtain ⟨rfl, rfl⟩ := htq'
     rcases zFy hw with rfl | rfl | rfl | rfl
     ·replace hg : go r .sp false [] e (i + 0) = some lr := hg
      rw [Int.add_zero] at hg
      refine zAH L (.str " ") LQ.sp.sv (zAE .sp) false [] e i ((pre.length : Int) + 1) [.tup [.str "a", .str "c"]] (r := .cont) (.inr rfl) (fun k hk => ?_) R (nx .sp false [] e i hg ?_)
      ·show ev _ _ _ _ ⟨_, zAC (.str "a") (.str (tx [])) _ _ _ _⟩ _
       exact Eq.mpr (zPQ ..) ⟨rfl, zAQ zDg, hk⟩
      ·exact LInv.to ⟨rfl, rfl⟩ (ln0 (zAq _))
     ·replace hg : go r .sp false [] e (i + 0) = some lr := hg
      rw [Int.add_zero] at hg
      refine zAH L (.str "\t") LQ.sp.sv (zAE .sp) false [] e i ((pre.length : Int) + 1) [.tup [.str "a", .str "c"]] (r := .cont) (.inr rfl) (fun k hk => ?_) R (nx .sp false [] e i hg ?_)
      ·show ev _ _ _ _ ⟨_, zAC (.str "a") (.str (tx [])) _ _ _ _⟩ _
       exact Eq.mpr (zPN ..) ⟨rfl, zAQ zDc, hk⟩
      ·exact LInv.to ⟨rfl, rfl⟩ (ln0 (zAq _))
     ·replace hg : go r .sp false [] e (i + 0) = some lr := hg
      rw [Int.add_zero] at hg
      refine zAH L (.str "\r") LQ.sp.sv (zAE .sp) false [] e i ((pre.length : Int) + 1) [.tup [.str "a", .str "c"]] (r := .cont) (.inr rfl) (fun k hk => ?_) R (nx .sp false [] e i hg ?_)
      ·show ev _ _ _ _ ⟨_, zAC (.str "a") (.str (tx [])) _ _ _ _⟩ _
       exact Eq.mpr (zPP ..) ⟨rfl, zAQ zDf, hk⟩
      ·exact LInv.to ⟨rfl, rfl⟩ (ln0 (zAq _))
     ·replace hg : go r .sp false [] e (i + 1) = some lr := hg
      refine zAH L (.str "\n") LQ.sp.sv (zAE .sp) false [] e (i + 1) ((pre.length : Int) + 1) [.tup [.str "a", .str "c"]] (r := .cont) (.inr rfl) (fun k hk => ?_) R (nx .sp false [] e (i + 1) hg ?_)
      ·show ev _ _ _ _ ⟨_, zAC (.str "a") (.str (tx [])) _ _ _ _⟩ _
       exact Eq.mpr (zPO ..) ⟨rfl, zAQ zCv, hk⟩
      ·exact LInv.to ⟨rfl, rfl⟩ (ln0 (zAq _))
   ·obtain ⟨w1, w2, w3, w4⟩ := zPY hw
    by_cases h39 : c = 39
    ·subst h39
     replace hg : go r .sq quoted t e i = some lr := hg
     refine zAH L (.str "'") LQ.sq.sv (zAE .sq) quoted t e i ((pre.length : Int) + 1) [.tup [.str "a", .str "c"]] (r := .next) (.inl rfl) (fun k hk => ?_) R (nx .sq quoted t e i hg ?_)
     ·show ev _ _ _ _ ⟨_, zAC (.str "a") (.str (tx t)) _ _ _ _⟩ _
      exact Eq.mpr (zRt ..) ⟨rfl, zAQ zDd, by exact hk⟩
     ·exact LInv.to trivial (lnT inv.len (zAq _))
    by_cases h34 : c = 34
    ·subst h34
     replace hg : go r .dq quoted t e i = some lr := hg
     refine zAH L (.str "\"") LQ.dq.sv (zAE .dq) quoted t e i ((pre.length : Int) + 1) [.tup [.str "a", .str "c"]] (r := .next) (.inl rfl) (fun k hk => ?_) R (nx .dq quoted t e i hg ?_)
     ·show ev _ _ _ _ ⟨_, zAC (.str "a") (.str (tx t)) _ _ _ _⟩ _
      exact Eq.mpr (zRu ..) ⟨rfl, zAQ zDe, by exact hk⟩
     ·exact LInv.to trivial (lnT inv.len (zAq _))
    by_cases h92 : c = 92
    ·subst h92
     replace hg : go r .ea quoted t "a" i = some lr := hg
     refine zAH L (.str "\\") LQ.ea.sv (zAE .ea) quoted t "a" i ((pre.length : Int) + 1) [.tup [.str "a", .str "c"]] (r := .next) (.inl rfl) (fun k hk => ?_) R (nx .ea quoted t "a" i hg ?_)
     ·show ev _ _ _ _ ⟨_, zAC (.str "a") (.str (tx t)) _ _ _ _⟩ _
      exact Eq.mpr (zRv ..) ⟨rfl, zAQ zCY, by exact hk⟩
     ·exact LInv.to rfl (lnT inv.len (zAq _))
    have ho : Other c := ⟨w4, w1, w2, w3, h39, h34, h92⟩
    simp [go, hw, h39, h34, h92] at hg
    cases hW : isW c
    ·have sg := zBx (pre := pre) (r := r) ho
     rw [hW] at sg
     refine zAH L (.sg c esO (fsO false)) LQ.a.sv (zAE .a) quoted (t ++ [c]) e i ((pre.length : Int) + 1) [.tup [.str "a", .str "c"]] (r := .next) (.inl rfl) (fun k hk => ?_) R (nx .a quoted (t ++ [c]) e i hg ?_)
     ·show ev _ _ _ _ ⟨_, zAC (.str "a") (.str (tx t)) _ _ _ _⟩ _
      exact Eq.mpr (zIJ ..) ⟨rfl, sg, by rw [zAF]; have := inv.len; simp [escN] at this hlen ⊢; lia, by rw [zAo]; exact hk⟩
     ·exact LInv.to trivial (lnS inv.len)
    ·have sg := zBx (pre := pre) (r := r) ho
     rw [hW] at sg
     refine zAH L (.sg c esO (fsO true)) LQ.a.sv (zAE .a) quoted (t ++ [c]) e i ((pre.length : Int) + 1) [.tup [.str "a", .str "c"]] (r := .next) (.inl rfl) (fun k hk => ?_) R (nx .a quoted (t ++ [c]) e i hg ?_)
     ·show ev _ _ _ _ ⟨_, zAC (.str "a") (.str (tx t)) _ _ _ _⟩ _
      exact Eq.mpr (zJs ..) ⟨rfl, sg, by rw [zAF]; have := inv.len; simp [escN] at this hlen ⊢; lia, by rw [zAo]; exact hk⟩
     ·exact LInv.to trivial (lnS inv.len)
  | sq =>
   by_cases h10 : c = 10
   ·subst h10
    replace hg : go r .sq true (t ++ [10]) e (i + 1) = some lr := hg
    refine zAH L (.str "\n") LQ.sq.sv (zAE .sq) true (t ++ [10]) e (i + 1) ((pre.length : Int) + 1) [] (r := .next) (.inl rfl) (fun k hk => ?_) R (nx .sq true (t ++ [10]) e (i + 1) hg ?_)
    ·show ev _ _ _ _ ⟨_, zAC (.str "'") (.str (tx t)) _ _ _ _⟩ _
     exact Eq.mpr (zPy ..) ⟨rfl, zAQ zCv, by rw [zAF]; have := inv.len; simp [escN] at this hlen ⊢; lia, by rw [zNd]; exact hk⟩
    ·exact LInv.to trivial (lnS inv.len)
   by_cases h32 : c = 32
   ·subst h32
    replace hg : go r .sq true (t ++ [32]) e (i + 0) = some lr := hg
    rw [Int.add_zero] at hg
    refine zAH L (.str " ") LQ.sq.sv (zAE .sq) true (t ++ [32]) e i ((pre.length : Int) + 1) [] (r := .next) (.inl rfl) (fun k hk => ?_) R (nx .sq true (t ++ [32]) e i hg ?_)
    ·show ev _ _ _ _ ⟨_, zAC (.str "'") (.str (tx t)) _ _ _ _⟩ _
     exact Eq.mpr (zQC ..) ⟨rfl, zAQ zDg, by rw [zAF]; have := inv.len; simp [escN] at this hlen ⊢; lia, by rw [zNf]; exact hk⟩
    ·exact LInv.to trivial (lnS inv.len)
   by_cases h9 : c = 9
   ·subst h9
    replace hg : go r .sq true (t ++ [9]) e (i + 0) = some lr := hg
    rw [Int.add_zero] at hg
    refine zAH L (.str "\t") LQ.sq.sv (zAE .sq) true (t ++ [9]) e i ((pre.length : Int) + 1) [] (r := .next) (.inl rfl) (fun k hk => ?_) R (nx .sq true (t ++ [9]) e i hg ?_)
    ·show ev _ _ _ _ ⟨_, zAC (.str "'") (.str (tx t)) _ _ _ _⟩ _
     exact Eq.mpr (zPw ..) ⟨rfl, zAQ zDc, by rw [zAF]; have := inv.len; simp [escN] at this hlen ⊢; lia, by rw [zNc]; exact hk⟩
    ·exact LInv.to trivial (lnS inv.len)
   by_cases h13 : c = 13
   ·subst h13
    replace hg : go r .sq true (t ++ [13]) e (i + 0) = some lr := hg
    rw [Int.add_zero] at hg
    refine zAH L (.str "\r") LQ.sq.sv (zAE .sq) true (t ++ [13]) e i ((pre.length : Int) + 1) [] (r := .next) (.inl rfl) (fun k hk => ?_) R (nx .sq true (t ++ [13]) e i hg ?_)
    ·show ev _ _ _ _ ⟨_, zAC (.str "'") (.str (tx t)) _ _ _ _⟩ _
     exact Eq.mpr (zQA ..) ⟨rfl, zAQ zDf, by rw [zAF]; have := inv.len; simp [escN] at this hlen ⊢; lia, by rw [zNe]; exact hk⟩
    ·exact LInv.to trivial (lnS inv.len)
   by_cases h39 : c = 39
   ·subst h39
    replace hg : go r .a true t e i = some lr := hg
    refine zAH L (.str "'") LQ.a.sv (zAE .a) true t e i ((pre.length : Int) + 1) [] (r := .next) (.inl rfl) (fun k hk => ?_) R (nx .a true t e i hg ?_)
    ·show ev _ _ _ _ ⟨_, zAC (.str "'") (.str (tx t)) _ _ _ _⟩ _
     exact Eq.mpr (zPx ..) ⟨rfl, zAQ zDd, by exact hk⟩
    ·exact LInv.to trivial (lnT inv.len (zAq _))
   by_cases h34 : c = 34
   ·subst h34
    replace hg : go r .sq true (t ++ [34]) e (i + 0) = some lr := hg
    rw [Int.add_zero] at hg
    refine zAH L (.str "\"") LQ.sq.sv (zAE .sq) true (t ++ [34]) e i ((pre.length : Int) + 1) [] (r := .next) (.inl rfl) (fun k hk => ?_) R (nx .sq true (t ++ [34]) e i hg ?_)
    ·show ev _ _ _ _ ⟨_, zAC (.str "'") (.str (tx t)) _ _ _ _⟩ _
     exact Eq.mpr (zPz ..) ⟨rfl, zAQ zDe, by rw [zAF]; have := inv.len; simp [escN] at this hlen ⊢; lia, by rw [zQU]; exact hk⟩
    ·exact LInv.to trivial (lnS inv.len)
   by_cases h92 : c = 92
   ·subst h92
    replace hg : go r .sq true (t ++ [92]) e (i + 0) = some lr := hg
    rw [Int.add_zero] at hg
    refine zAH L (.str "\\") LQ.sq.sv (zAE .sq) true (t ++ [92]) e i ((pre.length : Int) + 1) [] (r := .next) (.inl rfl) (fun k hk => ?_) R (nx .sq true (t ++ [92]) e i hg ?_)
    ·show ev _ _ _ _ ⟨_, zAC (.str "'") (.str (tx t)) _ _ _ _⟩ _
     exact Eq.mpr (zQB ..) ⟨rfl, zAQ zCY, by rw [zAF]; have := inv.len; simp [escN] at this hlen ⊢; lia, by rw [zCB]; exact hk⟩
    ·exact LInv.to trivial (lnS inv.len)
   have ho : Other c := ⟨h10, h32, h9, h13, h39, h34, h92⟩
   simp [go, h39, h34, h92, nl, h10] at hg
   cases hW : isW c
   ·have sg := zBx (pre := pre) (r := r) ho
    rw [hW] at sg
    refine zAH L (.sg c esO (fsO false)) LQ.sq.sv (zAE .sq) true (t ++ [c]) e i ((pre.length : Int) + 1) [] (r := .next) (.inl rfl) (fun k hk => ?_) R (nx .sq true (t ++ [c]) e i hg ?_)
    ·show ev _ _ _ _ ⟨_, zAC (.str "'") (.str (tx t)) _ _ _ _⟩ _
     exact Eq.mpr (zGq ..) ⟨rfl, sg, by rw [zAF]; have := inv.len; simp [escN] at this hlen ⊢; lia, by rw [zAo]; exact hk⟩
    ·exact LInv.to trivial (lnS inv.len)
   ·have sg := zBx (pre := pre) (r := r) ho
    rw [hW] at sg
    refine zAH L (.sg c esO (fsO true)) LQ.sq.sv (zAE .sq) true (t ++ [c]) e i ((pre.length : Int) + 1) [] (r := .next) (.inl rfl) (fun k hk => ?_) R (nx .sq true (t ++ [c]) e i hg ?_)
    ·show ev _ _ _ _ ⟨_, zAC (.str "'") (.str (tx t)) _ _ _ _⟩ _
     exact Eq.mpr (zIG ..) ⟨rfl, sg, by rw [zAF]; have := inv.len; simp [escN] at this hlen ⊢; lia, by rw [zAo]; exact hk⟩
    ·exact LInv.to trivial (lnS inv.len)
  | dq =>
   by_cases h10 : c = 10
   ·subst h10
    replace hg : go r .dq true (t ++ [10]) e (i + 1) = some lr := hg
    refine zAH L (.str "\n") LQ.dq.sv (zAE .dq) true (t ++ [10]) e (i + 1) ((pre.length : Int) + 1) [] (r := .next) (.inl rfl) (fun k hk => ?_) R (nx .dq true (t ++ [10]) e (i + 1) hg ?_)
    ·show ev _ _ _ _ ⟨_, zAC (.str "\"") (.str (tx t)) _ _ _ _⟩ _
     exact Eq.mpr (zQM ..) ⟨rfl, zAQ zCv, by rw [zAF]; have := inv.len; simp [escN] at this hlen ⊢; lia, by rw [zNd]; exact hk⟩
    ·exact LInv.to trivial (lnS inv.len)
   by_cases h32 : c = 32
   ·subst h32
    replace hg : go r .dq true (t ++ [32]) e (i + 0) = some lr := hg
    rw [Int.add_zero] at hg
    refine zAH L (.str " ") LQ.dq.sv (zAE .dq) true (t ++ [32]) e i ((pre.length : Int) + 1) [] (r := .next) (.inl rfl) (fun k hk => ?_) R (nx .dq true (t ++ [32]) e i hg ?_)
    ·show ev _ _ _ _ ⟨_, zAC (.str "\"") (.str (tx t)) _ _ _ _⟩ _
     exact Eq.mpr (zQQ ..) ⟨rfl, zAQ zDg, by rw [zAF]; have := inv.len; simp [escN] at this hlen ⊢; lia, by rw [zNf]; exact hk⟩
    ·exact LInv.to trivial (lnS inv.len)
   by_cases h9 : c = 9
   ·subst h9
    replace hg : go r .dq true (t ++ [9]) e (i + 0) = some lr := hg
    rw [Int.add_zero] at hg
    refine zAH L (.str "\t") LQ.dq.sv (zAE .dq) true (t ++ [9]) e i ((pre.length : Int) + 1) [] (r := .next) (.inl rfl) (fun k hk => ?_) R (nx .dq true (t ++ [9]) e i hg ?_)
    ·show ev _ _ _ _ ⟨_, zAC (.str "\"") (.str (tx t)) _ _ _ _⟩ _
     exact Eq.mpr (zQK ..) ⟨rfl, zAQ zDc, by rw [zAF]; have := inv.len; simp [escN] at this hlen ⊢; lia, by rw [zNc]; exact hk⟩
    ·exact LInv.to trivial (lnS inv.len)
   by_cases h13 : c = 13
   ·subst h13
    replace hg : go r .dq true (t ++ [13]) e (i + 0) = some lr := hg
    rw [Int.add_zero] at hg
    refine zAH L (.str "\r") LQ.dq.sv (zAE .dq) true (t ++ [13]) e i ((pre.length : Int) + 1) [] (r := .next) (.inl rfl) (fun k hk => ?_) R (nx .dq true (t ++ [13]) e i hg ?_)
    ·show ev _ _ _ _ ⟨_, zAC (.str "\"") (.str (tx t)) _ _ _ _⟩ _
     exact Eq.mpr (zQO ..) ⟨rfl, zAQ zDf, by rw [zAF]; have := inv.len; simp [escN] at this hlen ⊢; lia, by rw [zNe]; exact hk⟩
    ·exact LInv.to trivial (lnS inv.len)
   by_cases h39 : c = 39
   ·subst h39
    replace hg : go r .dq true (t ++ [39]) e (i + 0) = some lr := hg
    rw [Int.add_zero] at hg
    refine zAH L (.str "'") LQ.dq.sv (zAE .dq) true (t ++ [39]) e i ((pre.length : Int) + 1) [] (r := .next) (.inl rfl) (fun k hk => ?_) R (nx .dq true (t ++ [39]) e i hg ?_)
    ·show ev _ _ _ _ ⟨_, zAC (.str "\"") (.str (tx t)) _ _ _ _⟩ _
     exact Eq.mpr (zQL ..) ⟨rfl, zAQ zDd, by rw [zAF]; have := inv.len; simp [escN] at this hlen ⊢; lia, by rw [zQT]; exact hk⟩
    ·exact LInv.to trivial (lnS inv.len)
   by_cases h34 : c = 34
   ·subst h34
    replace hg : go r .a true t e i = some lr := hg
    refine zAH L (.str "\"") LQ.a.sv (zAE .a) true t e i ((pre.length : Int) + 1) [] (r := .next) (.inl rfl) (fun k hk => ?_) R (nx .a true t e i hg ?_)
    ·show ev _ _ _ _ ⟨_, zAC (.str "\"") (.str (tx t)) _ _ _ _⟩ _
     exact Eq.mpr (zQN ..) ⟨rfl, zAQ zDe, by exact hk⟩
    ·exact LInv.to trivial (lnT inv.len (zAq _))
   by_cases h92 : c = 92
   ·subst h92
    replace hg : go r .ed true t "\"" i = some lr := hg
    refine zAH L (.str "\\") LQ.ed.sv (zAE .ed) true t "\"" i ((pre.length : Int) + 1) [] (r := .next) (.inl rfl) (fun k hk => ?_) R (nx .ed true t "\"" i hg ?_)
    ·show ev _ _ _ _ ⟨_, zAC (.str "\"") (.str (tx t)) _ _ _ _⟩ _
     exact Eq.mpr (zQP ..) ⟨rfl, zAQ zCY, by exact hk⟩
    ·exact LInv.to rfl (lnT inv.len (zAq _))
   have ho : Other c := ⟨h10, h32, h9, h13, h39, h34, h92⟩
   simp [go, h39, h34, h92, nl, h10] at hg
   cases hW : isW c
   ·have sg := zBx (pre := pre) (r := r) ho
    rw [hW] at sg
    refine zAH L (.sg c esO (fsO false)) LQ.dq.sv (zAE .dq) true (t ++ [c]) e i ((pre.length : Int) + 1) [] (r := .next) (.inl rfl) (fun k hk => ?_) R (nx .dq true (t ++ [c]) e i hg ?_)
    ·show ev _ _ _ _ ⟨_, zAC (.str "\"") (.str (tx t)) _ _ _ _⟩ _
     exact Eq.mpr (zGs ..) ⟨rfl, sg, by rw [zAF]; have := inv.len; simp [escN] at this hlen ⊢; lia, by rw [zAo]; exact hk⟩
    ·exact LInv.to trivial (lnS inv.len)
   ·have sg := zBx (pre := pre) (r := r) ho
    rw [hW] at sg
    refine zAH L (.sg c esO (fsO true)) LQ.dq.sv (zAE .dq) true (t ++ [c]) e i ((pre.length : Int) + 1) [] (r := .next) (.inl rfl) (fun k hk => ?_) R (nx .dq true (t ++ [c]) e i hg ?_)
    ·show ev _ _ _ _ ⟨_, zAC (.str "\"") (.str (tx t)) _ _ _ _⟩ _
     exact Eq.mpr (zII ..) ⟨rfl, sg, by rw [zAF]; have := inv.len; simp [escN] at this hlen ⊢; lia, by rw [zAo]; exact hk⟩
    ·exact LInv.to trivial (lnS inv.len)
  | ea =>
   have he := inv.ea rfl
   subst he
   by_cases h10 : c = 10
   ·subst h10
    replace hg : go r .a quoted (t ++ [10]) "a" (i + 1) = some lr := hg
    refine zAH L (.str "\n") LQ.a.sv (zAE .a) quoted (t ++ [10]) "a" (i + 1) ((pre.length : Int) + 1) [] (r := .next) (.inl rfl) (fun k hk => ?_) R (nx .a quoted (t ++ [10]) "a" (i + 1) hg ?_)
    ·show ev _ _ _ _ ⟨_, zAC (.str "\\") (.str (tx t)) _ _ _ _⟩ _
     exact Eq.mpr (zLI ..) ⟨rfl, zAQ zCv, by rw [zAF]; have := inv.len; simp [escN] at this hlen ⊢; lia, by rw [zNd]; exact hk⟩
    ·exact LInv.to trivial (lnS inv.len)
   by_cases h32 : c = 32
   ·subst h32
    replace hg : go r .a quoted (t ++ [32]) "a" (i + 0) = some lr := hg
    rw [Int.add_zero] at hg
    refine zAH L (.str " ") LQ.a.sv (zAE .a) quoted (t ++ [32]) "a" i ((pre.length : Int) + 1) [] (r := .next) (.inl rfl) (fun k hk => ?_) R (nx .a quoted (t ++ [32]) "a" i hg ?_)
    ·show ev _ _ _ _ ⟨_, zAC (.str "\\") (.str (tx t)) _ _ _ _⟩ _
     exact Eq.mpr (zLM ..) ⟨rfl, zAQ zDg, by rw [zAF]; have := inv.len; simp [escN] at this hlen ⊢; lia, by rw [zNf]; exact hk⟩
    ·exact LInv.to trivial (lnS inv.len)
   by_cases h9 : c = 9
   ·subst h9
    replace hg : go r .a quoted (t ++ [9]) "a" (i + 0) = some lr := hg
    rw [Int.add_zero] at hg
    refine zAH L (.str "\t") LQ.a.sv (zAE .a) quoted (t ++ [9]) "a" i ((pre.length : Int) + 1) [] (r := .next) (.inl rfl) (fun k hk => ?_) R (nx .a quoted (t ++ [9]) "a" i hg ?_)
    ·show ev _ _ _ _ ⟨_, zAC (.str "\\") (.str (tx t)) _ _ _ _⟩ _
     exact Eq.mpr (zLG ..) ⟨rfl, zAQ zDc, by rw [zAF]; have := inv.len; simp [escN] at this hlen ⊢; lia, by rw [zNc]; exact hk⟩
    ·exact LInv.to trivial (lnS inv.len)
   by_cases h13 : c = 13
   ·subst h13
    replace hg : go r .a quoted (t ++ [13]) "a" (i + 0) = some lr := hg
    rw [Int.add_zero] at hg
    refine zAH L (.str "\r") LQ.a.sv (zAE .a) quoted (t ++ [13]) "a" i ((pre.length : Int) + 1) [] (r := .next) (.inl rfl) (fun k hk => ?_) R (nx .a quoted (t ++ [13]) "a" i hg ?_)
    ·show ev _ _ _ _ ⟨_, zAC (.str "\\") (.str (tx t)) _ _ _ _⟩ _
     exact Eq.mpr (zLK ..) ⟨rfl, zAQ zDf, by rw [zAF]; have := inv.len; simp [escN] at this hlen ⊢; lia, by rw [zNe]; exact hk⟩
    ·exact LInv.to trivial (lnS inv.len)
   by_cases h39 : c = 39
   ·subst h39
    replace hg : go r .a quoted (t ++ [39]) "a" (i + 0) = some lr := hg
    rw [Int.add_zero] at hg
    refine zAH L (.str "'") LQ.a.sv (zAE .a) quoted (t ++ [39]) "a" i ((pre.length : Int) + 1) [] (r := .next) (.inl rfl) (fun k hk => ?_) R (nx .a quoted (t ++ [39]) "a" i hg ?_)
    ·show ev _ _ _ _ ⟨_, zAC (.str "\\") (.str (tx t)) _ _ _ _⟩ _
     exact Eq.mpr (zLH ..) ⟨rfl, zAQ zDd, by rw [zAF]; have := inv.len; simp [escN] at this hlen ⊢; lia, by rw [zQT]; exact hk⟩
    ·exact LInv.to trivial (lnS inv.len)
   by_cases h34 : c = 34
   ·subst h34
    replace hg : go r .a quoted (t ++ [34]) "a" (i + 0) = some lr := hg
    rw [Int.add_zero] at hg
    refine zAH L (.str "\"") LQ.a.sv (zAE .a) quoted (t ++ [34]) "a" i ((pre.length : Int) + 1) [] (r := .next) (.inl rfl) (fun k hk => ?_) R (nx .a quoted (t ++ [34]) "a" i hg ?_)
    ·show ev _ _ _ _ ⟨_, zAC (.str "\\") (.str (tx t)) _ _ _ _⟩ _
     exact Eq.mpr (zLJ ..) ⟨rfl, zAQ zDe, by rw [zAF]; have := inv.len; simp [escN] at this hlen ⊢; lia, by rw [zQU]; exact hk⟩
    ·exact LInv.to trivial (lnS inv.len)
   by_cases h92 : c = 92
   ·subst h92
    replace hg : go r .a quoted (t ++ [92]) "a" (i + 0) = some lr := hg
    rw [Int.add_zero] at hg
    refine zAH L (.str "\\") LQ.a.sv (zAE .a) quoted (t ++ [92]) "a" i ((pre.length : Int) + 1) [] (r := .next) (.inl rfl) (fun k hk => ?_) R (nx .a quoted (t ++ [92]) "a" i hg ?_)
    ·show ev _ _ _ _ ⟨_, zAC (.str "\\") (.str (tx t)) _ _ _ _⟩ _
     exact Eq.mpr (zLL ..) ⟨rfl, zAQ zCY, by rw [zAF]; have := inv.len; simp [escN] at this hlen ⊢; lia, by rw [zCB]; exact hk⟩
    ·exact LInv.to trivial (lnS inv.len)
   have ho : Other c := ⟨h10, h32, h9, h13, h39, h34, h92⟩
   simp [go, h39, h34, h92, nl, h10] at hg
   cases hW : isW c
   ·have sg := zBx (pre := pre) (r := r) ho
    rw [hW] at sg
    refine zAH L (.sg c esO (fsO false)) LQ.a.sv (zAE .a) quoted (t ++ [c]) "a" i ((pre.length : Int) + 1) [] (r := .next) (.inl rfl) (fun k hk => ?_) R (nx .a quoted (t ++ [c]) "a" i hg ?_)
    ·show ev _ _ _ _ ⟨_, zAC (.str "\\") (.str (tx t)) _ _ _ _⟩ _
     exact Eq.mpr (zFJ ..) ⟨rfl, sg, by rw [zAF]; have := inv.len; simp [escN] at this hlen ⊢; lia, by rw [zAo]; exact hk⟩
    ·exact LInv.to trivial (lnS inv.len)
   ·have sg := zBx (pre := pre) (r := r) ho
    rw [hW] at sg
    refine zAH L (.sg c esO (fsO true)) LQ.a.sv (zAE .a) quoted (t ++ [c]) "a" i ((pre.length : Int) + 1) [] (r := .next) (.inl rfl) (fun k hk => ?_) R (nx .a quoted (t ++ [c]) "a" i hg ?_)
    ·show ev _ _ _ _ ⟨_, zAC (.str "\\") (.str (tx t)) _ _ _ _⟩ _
     exact Eq.mpr (zGC ..) ⟨rfl, sg, by rw [zAF]; have := inv.len; simp [escN] at this hlen ⊢; lia, by rw [zAo]; exact hk⟩
    ·exact LInv.to trivial (lnS inv.len)
  | ed =>
   have he := inv.ed rfl
   subst he
   by_cases h10 : c = 10
   ·subst h10
    replace hg : go r .dq quoted (t ++ [92, 10]) "\"" (i + 1) = some lr := hg
    refine zAH L (.str "\n") LQ.dq.sv (zAE .dq) quoted (t ++ [92, 10]) "\"" (i + 1) ((pre.length : Int) + 1) [] (r := .next) (.inl rfl) (fun k hk => ?_) R (nx .dq quoted (t ++ [92, 10]) "\"" (i + 1) hg ?_)
    ·show ev _ _ _ _ ⟨_, zAC (.str "\\") (.str (tx t)) _ _ _ _⟩ _
     exact Eq.mpr (zJn ..) ⟨rfl, zAQ zCv, by rw [zAF]; have := inv.len; simp [escN] at this hlen ⊢; lia, by rw [zCB, zAF]; have := inv.len; simp [escN] at this hlen ⊢; lia, by rw [zCB, zNd, List.append_assoc]; exact hk⟩
    ·exact LInv.to trivial (lnD inv.len)
   by_cases h32 : c = 32
   ·subst h32
    replace hg : go r .dq quoted (t ++ [92, 32]) "\"" (i + 0) = some lr := hg
    rw [Int.add_zero] at hg
    refine zAH L (.str " ") LQ.dq.sv (zAE .dq) quoted (t ++ [92, 32]) "\"" i ((pre.length : Int) + 1) [] (r := .next) (.inl rfl) (fun k hk => ?_) R (nx .dq quoted (t ++ [92, 32]) "\"" i hg ?_)
    ·show ev _ _ _ _ ⟨_, zAC (.str "\\") (.str (tx t)) _ _ _ _⟩ _
     exact Eq.mpr (zJr ..) ⟨rfl, zAQ zDg, by rw [zAF]; have := inv.len; simp [escN] at this hlen ⊢; lia, by rw [zCB, zAF]; have := inv.len; simp [escN] at this hlen ⊢; lia, by rw [zCB, zNf, List.append_assoc]; exact hk⟩
    ·exact LInv.to trivial (lnD inv.len)
   by_cases h9 : c = 9
   ·subst h9
    replace hg : go r .dq quoted (t ++ [92, 9]) "\"" (i + 0) = some lr := hg
    rw [Int.add_zero] at hg
    refine zAH L (.str "\t") LQ.dq.sv (zAE .dq) quoted (t ++ [92, 9]) "\"" i ((pre.length : Int) + 1) [] (r := .next) (.inl rfl) (fun k hk => ?_) R (nx .dq quoted (t ++ [92, 9]) "\"" i hg ?_)
    ·show ev _ _ _ _ ⟨_, zAC (.str "\\") (.str (tx t)) _ _ _ _⟩ _
     exact Eq.mpr (zJl ..) ⟨rfl, zAQ zDc, by rw [zAF]; have := inv.len; simp [escN] at this hlen ⊢; lia, by rw [zCB, zAF]; have := inv.len; simp [escN] at this hlen ⊢; lia, by rw [zCB, zNc, List.append_assoc]; exact hk⟩
    ·exact LInv.to trivial (lnD inv.len)
   by_cases h13 : c = 13
   ·subst h13
    replace hg : go r .dq quoted (t ++ [92, 13]) "\"" (i + 0) = some lr := hg
    rw [Int.add_zero] at hg
    refine zAH L (.str "\r") LQ.dq.sv (zAE .dq) quoted (t ++ [92, 13]) "\"" i ((pre.length : Int) + 1) [] (r := .next) (.inl rfl) (fun k hk => ?_) R (nx .dq quoted (t ++ [92, 13]) "\"" i hg ?_)
    ·show ev _ _ _ _ ⟨_, zAC (.str "\\") (.str (tx t)) _ _ _ _⟩ _
     exact Eq.mpr (zJp ..) ⟨rfl, zAQ zDf, by rw [zAF]; have := inv.len; simp [escN] at this hlen ⊢; lia, by rw [zCB, zAF]; have := inv.len; simp [escN] at this hlen ⊢; lia, by rw [zCB, zNe, List.append_assoc]; exact hk⟩
    ·exact LInv.to trivial (lnD inv.len)
   by_cases h39 : c = 39
   ·subst h39
    replace hg : go r .dq quoted (t ++ [92, 39]) "\"" (i + 0) = some lr := hg
    rw [Int.add_zero] at hg
    refine zAH L (.str "'") LQ.dq.sv (zAE .dq) quoted (t ++ [92, 39]) "\"" i ((pre.length : Int) + 1) [] (r := .next) (.inl rfl) (fun k hk => ?_) R (nx .dq quoted (t ++ [92, 39]) "\"" i hg ?_)
    ·show ev _ _ _ _ ⟨_, zAC (.str "\\") (.str (tx t)) _ _ _ _⟩ _
     exact Eq.mpr (zJm ..) ⟨rfl, zAQ zDd, by rw [zAF]; have := inv.len; simp [escN] at this hlen ⊢; lia, by rw [zCB, zAF]; have := inv.len; simp [escN] at this hlen ⊢; lia, by rw [zCB, zQT, List.append_assoc]; exact hk⟩
    ·exact LInv.to trivial (lnD inv.len)
   by_cases h34 : c = 34
   ·subst h34
    replace hg : go r .dq quoted (t ++ [34]) "\"" (i + 0) = some lr := hg
    rw [Int.add_zero] at hg
    refine zAH L (.str "\"") LQ.dq.sv (zAE .dq) quoted (t ++ [34]) "\"" i ((pre.length : Int) + 1) [] (r := .next) (.inl rfl) (fun k hk => ?_) R (nx .dq quoted (t ++ [34]) "\"" i hg ?_)
    ·show ev _ _ _ _ ⟨_, zAC (.str "\\") (.str (tx t)) _ _ _ _⟩ _
     exact Eq.mpr (zJo ..) ⟨rfl, zAQ zDe, by rw [zAF]; have := inv.len; simp [escN] at this hlen ⊢; lia, by rw [zQU]; exact hk⟩
    ·exact LInv.to trivial (lnS inv.len)
   by_cases h92 : c = 92
   ·subst h92
    replace hg : go r .dq quoted (t ++ [92]) "\"" (i + 0) = some lr := hg
    rw [Int.add_zero] at hg
    refine zAH L (.str "\\") LQ.dq.sv (zAE .dq) quoted (t ++ [92]) "\"" i ((pre.length : Int) + 1) [] (r := .next) (.inl rfl) (fun k hk => ?_) R (nx .dq quoted (t ++ [92]) "\"" i hg ?_)
    ·show ev _ _ _ _ ⟨_, zAC (.str "\\") (.str (tx t)) _ _ _ _⟩ _
     exact Eq.mpr (zJq ..) ⟨rfl, zAQ zCY, by rw [zAF]; have := inv.len; simp [escN] at this hlen ⊢; lia, by rw [zCB]; exact hk⟩
    ·exact LInv.to trivial (lnS inv.len)
   have ho : Other c := ⟨h10, h32, h9, h13, h39, h34, h92⟩
   simp [go, h39, h34, h92, nl, h10] at hg
   cases hW : isW c
   ·have sg := zBx (pre := pre) (r := r) ho
    rw [hW] at sg
    refine zAH L (.sg c esO (fsO false)) LQ.dq.sv (zAE .dq) quoted (t ++ [92, c]) "\"" i ((pre.length : Int) + 1) [] (r := .next) (.inl rfl) (fun k hk => ?_) R (nx .dq quoted (t ++ [92, c]) "\"" i hg ?_)
    ·show ev _ _ _ _ ⟨_, zAC (.str "\\") (.str (tx t)) _ _ _ _⟩ _
     exact Eq.mpr (zEF ..) ⟨rfl, sg, by rw [zAF]; have := inv.len; simp [escN] at this hlen ⊢; lia, by rw [zCB, zAF]; have := inv.len; simp [escN] at this hlen ⊢; lia, by rw [zCB, zAo, List.append_assoc]; exact hk⟩
    ·exact LInv.to trivial (lnD inv.len)
   ·have sg := zBx (pre := pre) (r := r) ho
    rw [hW] at sg
    refine zAH L (.sg c esO (fsO true)) LQ.dq.sv (zAE .dq) quoted (t ++ [92, c]) "\"" i ((pre.length : Int) + 1) [] (r := .next) (.inl rfl) (fun k hk => ?_) R (nx .dq quoted (t ++ [92, c]) "\"" i hg ?_)
    ·show ev _ _ _ _ ⟨_, zAC (.str "\\") (.str (tx t)) _ _ _ _⟩ _
     exact Eq.mpr (zFI ..) ⟨rfl, sg, by rw [zAF]; have := inv.len; simp [escN] at this hlen ⊢; lia, by rw [zCB, zAF]; have := inv.len; simp [escN] at this hlen ⊢; lia, by rw [zCB, zAo, List.append_assoc]; exact hk⟩
    ·exact LInv.to trivial (lnD inv.len)
end
theorem zJk (P : Params) (e : SV) (b : Str) (i p : Int) (k : Kt) : ev (cfR P rdEnd) 60 (zAB s700).names (.sts zAI) { loc := [("self", .obj 0), ("quoted", .bool false), ("escapedstate", e)], led := zAC .none (.str "") i b p [] } k = (sio b p = sio b p ∧ (b.length : Int) ≤ p ∧ k .brk { loc := [("self", .obj 0), ("quoted", .bool false), ("escapedstate", e), ("nextchar", .str "")], led := zAC .none (.str "") i b p [] }) := by
 kernel_rfl
structure LexE where
 q : SV
 quoted : Bool
 tok : Str
 e : Str
 line : Int
 p : Int
inductive LexC : St → Str → LexE → Prop
 | run {pre rest : List Nat} {i : Int} {lr : LR} : go rest .sp false [] " " i = some lr → (pre ++ rest).length ≤ sizeLine →
   LexC (lst LQ.sp.sv false [] " " i (tx (pre ++ rest)) pre.length) (tx (pre ++ rest)) ⟨svq lr.q, lr.quoted, tx lr.tok, lr.e, lr.line, ((pre ++ rest).length - lr.rest.length : Nat)⟩
 | off {pre : List Nat} {i : Int} : pre.length ≤ sizeLine → LexC (lst .none false [] " " i (tx pre) pre.length) (tx pre) ⟨.none, false, tx [], " ", i, pre.length⟩
noncomputable def rtW : Stmt := stAt 2 (zAG s700)
noncomputable def wPos : Stmt → Pos
 | .While _ _ _ p => p
 | _ => default
noncomputable def zOQ (b : Str) (x : LexE) : HkE Stmt := ⟨(wPos rtW).line, (wPos rtW).col, 80, rtW, fun ns st k => ns = (zAB s700).names ∧ LexC st b x ∧ k .next ⟨[("self", .obj 0), ("quoted", .bool x.quoted), ("escapedstate", .str x.e)], zAC x.q (.str x.tok) x.line b x.p []⟩⟩
theorem zSF : rtW = .While zCC zAI [] (wPos rtW) := by kernel_rfl
theorem zOP {w : World} {C : Cf} (hK : C.K = KK w.params) (hC : C.known = true) (b : Str) (x : LexE) : HsOk w C (zOQ b x) := by
 intro F E ads st s k Q ok hd hu h R T
 obtain ⟨hn, hc, hk⟩ := h
 have L : LexOk w F := ⟨hn, zAY (by rw [hK]; rfl) ok (by first | exact fun _ => rfl | exact fun _ => by assumption | exact fun h => h), by have : (zOQ b x).d = 80 := rfl; lia, by have : (zOQ b x).d = 80 := rfl; lia⟩
 show Goal w F (.st rtW) Q E s
 rw [zSF]
 refine wpAny_While ?_
 cases hc with
 | run hg hl =>
  rename_i pre rest i lr
  refine zRC L rest pre .sp false [] " " i lr ads s hg ⟨fun _ => ⟨rfl, rfl⟩, (fun h => by cases h), (fun h => by cases h), by simp [escN]⟩ hl R fun z s' R' nx => ?_
  exact T .next _ ⟨[], z⟩ (.fl .next) s' hk R' nx trivial
 | off hl =>
  rename_i pre i
  refine zMK L .none trivial false [] " " i pre.length [] (fun k hk => ?_) R (fun z s' R' nx => ?_)
  ·show ev _ _ _ _ ⟨_, zAC .none (.str (tx [])) _ _ _ _⟩ _
   rw [← zAx, zJk]
   exact ⟨rfl, by rw [zAF]; simp, by rw [zAx]; exact hk⟩
  ·exact T .next _ ⟨[], z⟩ (.fl .next) s' hk R' nx trivial
noncomputable def s693 : Stmt := stAt 5 (zAJ (stAt 25 B01))
noncomputable def f693 : FnE := ⟨705, 1, ["self"], [], zAG s693, zAB s693, "shlex.get_token", .ref 704, []⟩
noncomputable def f700 : FnE := ⟨712, 1, ["self"], [], zAG s700, zAB s700, "shlex.read_token", .ref 711, []⟩
theorem zSr (P : Params) : FnOk (KK P) f693 := FnOk.of (by kernel_rfl) (by kernel_rfl) ⟨_, _, _, _, (by kernel_rfl : (KK P).lookup 705 = some (o693 P)), rfl, rfl, fun _ _ => rfl, rfl, rfl, fun s vs X h => by
 obtain ⟨a, rfl⟩ := len1 h
 exact BindsTo.of_eq (by kernel_rfl)⟩
theorem zSq (P : Params) : FnOk (KK P) f700 := FnOk.of (by kernel_rfl) (by kernel_rfl) ⟨_, _, _, _, (by kernel_rfl : (KK P).lookup 712 = some (o700 P)), rfl, rfl, fun _ _ => rfl, rfl, rfl, fun s vs X h => by
 obtain ⟨a, rfl⟩ := len1 h
 exact BindsTo.of_eq (by kernel_rfl)⟩
noncomputable def cfT (P : Params) (b : Str) (x : LexE) : Cf where
 K := KK P
 globs := g01
 fns := [f693, f700]
 cls := [c597, c732]
 hss := [zOQ b x]
theorem cokT (w : World) (b : Str) (x : LexE) : CfOk w (cfT w.params b x) where
 fns := zAA ⟨zSr _, by kernel_rfl, zAP (by kernel_rfl)⟩ <| zAA ⟨zSq _, by kernel_rfl, zAP (by kernel_rfl)⟩ <| zAD
 cls := zAA (zFq _) <| zAA (zHp _) <| zAD
 globs := zAn (zMl _)
 sps := zAD
 hxs := zAD
 hss := zAA (zOP rfl rfl b x) zAD
noncomputable def s729 : Stmt := stAt 10 (zAJ (stAt 25 B01))
noncomputable def f729 : FnE := ⟨741, 1, ["self"], [], zAG s729, zAB s729, "shlex.__next__", .ref 740, []⟩
theorem zPj (P : Params) : FnOk (KK P) f729 := FnOk.of (by kernel_rfl) (by kernel_rfl) ⟨_, _, _, _, (by kernel_rfl : (KK P).lookup 741 = some (o729 P)), rfl, rfl, fun _ _ => rfl, rfl, rfl, fun s vs X h => by
 obtain ⟨a, rfl⟩ := len1 h
 exact BindsTo.of_eq (by kernel_rfl)⟩
theorem zTf (P : Params) (b b0 : Str) (x : LexE) (q : SV) (i p : Int) (k : Kt) : ev (cfT P b x) 130 (zAB s729).names (.sts (zAG s729)) { loc := [("self", .obj 0)], led := zAC q (.str "") i b0 p [] } k =
   (rtW = rtW ∧ (zAB s700).names = (zAB s700).names ∧ LexC { loc := [("self", .obj 0), ("quoted", .bool false), ("escapedstate", .str " ")], led := zAC q (.str "") i b0 p [] } b x ∧
     ifT (!x.quoted) (ifT (Fast.sEq x.tok "") False
        (k (.ret (.str x.tok)) { loc := [("self", .obj 0), ("token", .str x.tok)], led := zAC x.q (.str "") x.line b x.p [] }))
      (k (.ret (.str x.tok)) { loc := [("self", .obj 0), ("token", .str x.tok)], led := zAC x.q (.str "") x.line b x.p [] })) := by
  kernel_rfl
noncomputable def zEk : Stmt → Expr
 | .If t _ _ _ => t
 | _ => default
noncomputable def zTq : Stmt → Pos
 | .If _ _ _ p => p
 | _ => default
noncomputable def zTY : Stmt → Pos
 | .Raise _ _ p => p
 | _ => default
noncomputable def raNm : Stmt → Pos
 | .Raise (some (.Name _ p)) _ _ => p
 | _ => default
noncomputable def zCz : Stmt → List Stmt
 | .If _ b _ _ => b
 | _ => []
noncomputable def nxIf : Stmt := stAt 1 (zAG s729)
theorem zQw : zAG s729 = stAt 0 (zAG s729) :: .If (zEk nxIf) [.Raise (some (.Name "StopIteration" (raNm (stAt 0 (zCz nxIf))))) none (zTY (stAt 0 (zCz nxIf)))] [] (zTq nxIf) :: (zAG s729).drop 2 := by kernel_rfl
theorem zSP (P : Params) (b b0 : Str) (x : LexE) (q : SV) (i p : Int) (k : Kt) : ev (cfT P b x) 130 (zAB s729).names (.st (stAt 0 (zAG s729))) { loc := [("self", .obj 0)], led := zAC q (.str "") i b0 p [] } k =
   (rtW = rtW ∧ (zAB s700).names = (zAB s700).names ∧ LexC { loc := [("self", .obj 0), ("quoted", .bool false), ("escapedstate", .str " ")], led := zAC q (.str "") i b0 p [] } b x ∧
     ifT (!x.quoted) (ifT (Fast.sEq x.tok "") (k .next { loc := [("self", .obj 0), ("token", .none)], led := zAC x.q (.str "") x.line b x.p [] })
        (k .next { loc := [("self", .obj 0), ("token", .str x.tok)], led := zAC x.q (.str "") x.line b x.p [] }))
      (k .next { loc := [("self", .obj 0), ("token", .str x.tok)], led := zAC x.q (.str "") x.line b x.p [] })) := by
  kernel_rfl
theorem zSO (P : Params) (b b0 : Str) (x : LexE) (q : SV) (i p : Int) (k : Kt) : ev (cfT P b x) 130 (zAB s729).names (.tr (zEk nxIf)) { loc := [("self", .obj 0), ("token", .none)], led := zAC q (.str "") i b0 p [] } k =
   k (.b true) { loc := [("self", .obj 0), ("token", .none)], led := zAC q (.str "") i b0 p [] } := by
  kernel_rfl
theorem okLx {q : SV} {t b : Str} {i p : Int} (hq : zAe q) : okL 4 (zAC q (.str t) i b p []) := by
 have h4 := zPX (n := 4) hq
 have e1 : ∀ k, k < 4 → okV 4 (.obj k) := fun k h => h
 refine ⟨?_, ?_, trivial, trivial, trivial⟩
 ·exact ⟨e1 1 (by lia), trivial, trivial, trivial, trivial, trivial, trivial, trivial, trivial, trivial, trivial, h4, e1 2 (by lia), trivial, trivial, trivial, e1 3 (by lia), trivial, trivial, trivial⟩
 ·exact ⟨trivial, trivial, trivial, trivial⟩
theorem zRz {q : SV} {t b : Str} {i p : Int} {extra : List SO} (hq : zAe q) : SosT 4 (zAC q (.str t) i b p extra) ((zAC q (.str t) i b p extra).take 4) (zAC q (.str t) i b p []) :=
 (zIy (loc := []) (more := []) hq trivial).led
section
variable {w : World} {F : Fm} {A : Around} {ads : Wd} {st : St} {s : Shared} {b : Str} {x : LexE} {q : SV} {i p : Int} {led₂ : List SO} {v : Value} {Rr : Result → Shared → Prop}
noncomputable abbrev lex0 (q : SV) (i : Int) (b : Str) (p : Int) : St := { loc := [("self", .obj 0), ("quoted", .bool false), ("escapedstate", .str " ")], led := zAC q (.str "") i b p [] }
theorem zDx {ads more : Wd} {st st' : St} {h h' : Heap} (R : Rep w F ads st h) (R' : Rep w F (wa ads more) st' h') (e : st'.led.length = st.led.length) : ∃ z, more = ⟨[], z⟩ := by
 obtain ⟨m, news, lw, X⟩ := R
 obtain ⟨m', news', lw', X'⟩ := R'
 have h1 := X.led.length
 have h2 := X'.led.length
 rw [Wd.ads_append, List.length_append] at h2
 obtain ⟨a, z⟩ := more
 have : a = [] := List.eq_nil_of_length_eq_zero (by dsimp only at h2; lia)
 subst this
 exact ⟨z, rfl⟩
theorem zOJ (ok : FmOk (cfT w.params b x) F) (hA : A.frames = some F.stk) (hh : A.handled = none) (hd : A.depth + 1 + 130 < recursionLimit) (hu : A.units + 3 + 8 * 130 < cLine) (R : Rep w F ads st s.heap) (dv : Den F.B ads (.obj 0) v)
  (hled : st.led = zAC q (.str "") i b p [] ++ led₂) (hq : zAe q) (hc : LexC (lex0 q i b p) b x) (hxq : zAe x.q) (ht : x.quoted = true ∨ Fast.sEq x.tok "" = false)
  (T : ∀ z s' u, Rep w F (wa ads (⟨[], z⟩ : Wd)) ⟨st.loc, zAC x.q (.str "") x.line b x.p [] ++ led₂⟩ s'.heap → Nx F s s' → Den F.B (wa ads (⟨[], z⟩ : Wd)) (.str x.tok) u → Rr (.ok (.ret u)) s') :
  codeAny (model prog w) A (.call (.ref 741) ⟨[v], []⟩) Rr s := by
 refine zBd (e := f729) (n := 130) (k := fun r st' => r = .v (.str x.tok) ∧ st' = ⟨st.loc, zAC x.q (.str "") x.line b x.p [] ++ led₂⟩) (Q := fun c s' => ∃ u, c = .v u ∧ Rr (.ok (.ret u)) s') (svs := [.obj 0]) (zBY (cokT w b x) 130) (zPj _) ok (fun _ => hA) hh hd hu R (.cons dv .nil) rfl hled (okLx hq) (fun y hy => by rw [List.mem_singleton.mp hy]; show 0 < 4; lia) List.nodup_nil ?_ ?_ ?_
 ·show ev (cfT w.params b x) 130 (zAB s729).names (.sts (zAG s729)) { loc := [("self", .obj 0)], led := zAC q (.str "") i b p [] } _
  rw [zTf]
  have fin : ∃ x' y led', (SR.ret (.str x.tok) = .ret x' ∨ (SR.ret (.str x.tok) = .next ∧ x' = .none)) ∧ SvT 4 (zAC x.q (.str "") x.line b x.p []) x' y ∧ SosT 4 (zAC x.q (.str "") x.line b x.p []) ((zAC x.q (.str "") x.line b x.p []).take 4) led' ∧ (SR.v y = .v (.str x.tok) ∧ (⟨st.loc, led' ++ led₂⟩ : St) = ⟨st.loc, zAC x.q (.str "") x.line b x.p [] ++ led₂⟩) :=
   ⟨.str x.tok, .str x.tok, _, .inl rfl, .same trivial, zRz hxq, rfl, rfl⟩
  refine ⟨rfl, rfl, hc, ?_⟩
  cases hqq : x.quoted with
  | true => exact fin
  | false =>
   rcases ht with h | h
   ·rw [hqq] at h; cases h
   ·rw [h]; exact fin
 ·intro r st' more c s' hk R' nx d
  obtain ⟨rfl, rfl⟩ := hk
  cases c with
  | v u =>
   refine ⟨u, rfl, ?_⟩
   obtain ⟨z, rfl⟩ := zDx R R' (by rw [hled]; rfl)
   exact T z s' u R' nx d
  | _ => exact d.elim
 ·rintro u s' ⟨_, e, h⟩; cases e; exact h
theorem zMA (ok : FmOk (cfT w.params b x) F) (hA : A.frames = some F.stk) (hh : A.handled = none) (hd : A.depth + 1 + 130 < recursionLimit) (hu : A.units + 3 + 8 * 130 < cLine) (R : Rep w F ads st s.heap) (dv : Den F.B ads (.obj 0) v)
  (hled : st.led = zAC q (.str "") i b p [] ++ led₂) (hq : zAe q) (hc : LexC (lex0 q i b p) b x) (hxq : zAe x.q) (ht : x.quoted = false ∧ Fast.sEq x.tok "" = true)
  (T : ∀ z s' e, Rep w F (wa ads (⟨[], z⟩ : Wd)) ⟨st.loc, zAC x.q (.str "") x.line b x.p [] ++ led₂⟩ s'.heap → Nx F s s' → (∃ o, s'.heap.get? e = some o ∧ o.cls = .type "StopIteration") → Rr (.error (.ref e)) s') :
  codeAny (model prog w) A (.call (.ref 741) ⟨[v], []⟩) Rr s := by
 refine zDD (e := f729) (svs := [.obj 0]) (zPj _) ok (fun _ => hA) hh (by omega) R (.cons dv .nil) rfl hled (okLx hq) (fun y hy => by rw [List.mem_singleton.mp hy]; show 0 < 4; omega) List.nodup_nil fun F' W Wc h₁ t ok' eA eS eB eT eZ eL R0' back bv => ?_
 have R' := zKx eZ eL R0'
 have eN : F'.sc.names = (zAB s729).names := by rw [eS]; rfl
 have dd : F'.A.depth + 130 < recursionLimit := by rw [eA]; show A.depth + 1 + 130 < _; omega
 have uu : F'.A.units + 8 * 130 < cLine := by rw [eA]; show A.units + 3 + 8 * 130 < _; omega
 have sn := zBY (cokT w b x) 130
 have cv : ∀ {a b : Shared}, NxB F'.quiet a b → NxB F.quiet a b := fun {a b} q => by rw [← eT.2.1]; exact q
 show wpAny (model prog w) F'.A (execs (zAG s729) F'.env) _ _ _
 rw [zQw]
 let st1 : St := ⟨[("self", .obj 0), ("token", .none)], zAC x.q (.str "") x.line b x.p []⟩
 refine wpAny_execs_cons (wpAny_mono (sn F' (fun _ _ => False) (.st (stAt 0 (zAG s729))) _ (fun r st' => r = .next ∧ st' = st1) W _ (fun c s' => c = .fl .next ∧ ∃ z, Rep w F' (wa W (⟨[], z⟩ : Wd)) st1 s'.heap ∧ Nx F s s') ok' dd uu ?_ R' ?_) (fun f s₁ hf => ?_) fun _ _ h => h.elim)
 ·rw [eN]
  show ev (cfT w.params b x) 130 (zAB s729).names (.st (stAt 0 (zAG s729))) { loc := [("self", .obj 0)], led := zAC q (.str "") i b p [] } _
  rw [zSP]
  refine ⟨rfl, rfl, hc, ?_⟩
  rw [ht.1, ht.2]
  exact ⟨rfl, rfl⟩
 ·rintro r st₁ m1 c s₁ ⟨rfl, rfl⟩ R₁ x₁ d₁
  obtain ⟨z1, rfl⟩ := zDx R' R₁ rfl
  cases c with
  | fl f =>
   cases f <;> try exact d₁.elim
   exact ⟨rfl, z1, R₁, (Nx.mk' s h₁ t).trans (cv x₁)⟩
  | _ => exact d₁.elim
 obtain ⟨e, z1, R₁, x₁⟩ := hf
 cases e
 dsimp only
 refine wpAny_execs_cons (wpAny_If (wpAny_mono (sn F' (fun _ _ => False) (.tr (zEk nxIf)) _ (fun r st' => r = .b true ∧ st' = st1) _ _ (fun c s' => c = .b true ∧ ∃ z, Rep w F' (wa W (⟨[], z⟩ : Wd)) st1 s'.heap ∧ Nx F s s') ok' dd uu ?_ R₁ ?_) (fun f s₂ hf => ?_) fun _ _ h => h.elim))
 ·rw [eN, zSO]; exact ⟨rfl, rfl⟩
 ·rintro r st₂ m2 c s₂ ⟨rfl, rfl⟩ R₂ x₂ d₂
  obtain ⟨z2, rfl⟩ := zDx R₁ R₂ rfl
  cases c with
  | b c =>
   cases d₂
   refine ⟨rfl, z1 ++ z2, ?_, x₁.trans (cv x₂)⟩
   have e1 : (wa (wa W (⟨[], z1⟩ : Wd)) (⟨[], z2⟩ : Wd)) = (wa W (⟨[], z1 ++ z2⟩ : Wd)) := by rw [Wd.append_assoc]; rfl
   rw [← e1]; exact R₂
  | _ => exact d₂.elim
 obtain ⟨e, z2, R₂, x₂⟩ := hf
 cases e
 rw [if_pos rfl]
 obtain ⟨mg, mb, G1, G2, G3⟩ := ok'.G.ns
 have R₂' := R₂
 obtain ⟨m, news, lw, X⟩ := R₂'
 refine wpAny_execs_cons (owsi_raiseC ok'.hand (ldB ok' X.fr G1 (mg_none_of ok'.X G1 (by kernel_rfl)) G2 ((G3 "StopIteration" (by decide +kernel)).trans (by kernel_rfl)) ⟨rfl, rfl⟩ (by show F'.sc.names.lookup _ = _; rw [eN, ← zAV]; kernel_rfl) (by decide)) fun h' e hm => ?_)
 refine zLg (hkn := rfl) (h := s₂.heap) (cls := .type "StopIteration") (args := []) eT.1 ok' R₂ ⟨hm.keeps, hm.new, hm.there⟩ fun h'' R₃ ho => ?_
 exact T z2 _ e (back _ _ _ _ R₃) (x₂.trans (Nx.of_gens rfl rfl rfl)) ho
end
inductive LexAll (b : Str) : SV → Int → Int → List Str → Prop
 | stop {q : SV} {i p : Int} {x : LexE} : zAe q → zAe x.q → LexC (lex0 q i b p) b x → x.quoted = false → Fast.sEq x.tok "" = true → LexAll b q i p []
 | tok {q : SV} {i p : Int} {x : LexE} {toks : List Str} : zAe q → zAe x.q → LexC (lex0 q i b p) b x → (x.quoted = true ∨ Fast.sEq x.tok "" = false) → LexAll b x.q x.line x.p toks → LexAll b q i p (x.tok :: toks)
noncomputable def cfK (P : Params) : Cf where
 K := KK P
 globs := []
 fns := []
 cls := []
noncomputable def s722 : Stmt := stAt 9 (zAJ (stAt 25 B01))
noncomputable def f722 : FnE := ⟨734, 1, ["self"], [], zAG s722, zAB s722, "shlex.__iter__", .ref 733, []⟩
theorem zSp (P : Params) : FnOk (KK P) f722 := FnOk.of (by kernel_rfl) (by kernel_rfl) ⟨_, _, _, _, (by kernel_rfl : (KK P).lookup 734 = some (o722 P)), rfl, rfl, fun _ _ => rfl, rfl, rfl, fun s vs X h => by
 obtain ⟨a, rfl⟩ := len1 h
 exact BindsTo.of_eq (by kernel_rfl)⟩
theorem zTp (P : Params) (st : List SO) (k : Kt) : ev (cfK P) 10 (zAB s722).names (.sts (zAG s722)) { loc := [("self", .obj 0)], led := st } k = k (.ret (.obj 0)) { loc := [("self", .obj 0)], led := st } := by kernel_rfl
theorem cokK (w : World) : CfOk w (cfK w.params) := ⟨zAD, zAD, (fun x v h => nomatch h), zAD, zAD, zAD⟩
section
variable {w : World} {F : Fm} {A : Around} {b : Str} {E : Value → Shared → Prop}
theorem Wd.two (W : Wd) (z1 z2 : List (Addr × Obj)) : (wa (wa W (⟨[], z1⟩ : Wd)) (⟨[], z2⟩ : Wd)) = (wa W (⟨[], z1 ++ z2⟩ : Wd)) := by rw [Wd.append_assoc]; rfl
theorem zDO {ads : Wd} {st : St} {s : Shared} {q : SV} {i p : Int} {led₂ : List SO} (R : Rep w F ads st s.heap) (hled : st.led = zAC q (.str "") i b p [] ++ led₂) {a : Addr} (da : Den F.B ads (.obj 0) (.ref a)) :
  ∃ m ox od, Fr F.h₀ F.L s.heap m ∧ PySem.W.InstAt s.heap a ox 744 od := by
 obtain ⟨m, news, lw, X⟩ := R
 obtain ⟨pre, post, a', dd, es, n, h1, e, he, I, _⟩ := zCp X (i := 0) (by rw [hled]; rfl) da
 cases e
 exact ⟨m, _, _, X.fr, I⟩
theorem zJV {Q : Option Value → Shared → Prop} {ads : Wd} {st : St} {s : Shared} {q : SV} {i p : Int} {x : LexE} {led₂ : List SO} {a : Addr} (ok : FmOk (cfK w.params) F) (hA : A.frames = some F.stk) (hh : A.handled = none) (hd : A.depth + 1 + 130 < recursionLimit) (hu : A.units + 3 + 8 * 130 < cLine)
  (R : Rep w F ads st s.heap) (da : Den F.B ads (.obj 0) (.ref a)) (hled : st.led = zAC q (.str "") i b p [] ++ led₂) (hq : zAe q) (hc : LexC (lex0 q i b p) b x) (hxq : zAe x.q)
  (tok : (x.quoted = true ∨ Fast.sEq x.tok "" = false) → ∀ z s' u, Rep w F (wa ads (⟨[], z⟩ : Wd)) ⟨st.loc, zAC x.q (.str "") x.line b x.p [] ++ led₂⟩ s'.heap → Nx F s s' → Den F.B (wa ads (⟨[], z⟩ : Wd)) (.str x.tok) u → Q (some u) s')
  (stop : (x.quoted = false ∧ Fast.sEq x.tok "" = true) → ∀ z s', Rep w F (wa ads (⟨[], z⟩ : Wd)) ⟨st.loc, zAC x.q (.str "") x.line b x.p [] ++ led₂⟩ s'.heap → Nx F s s' → Q none s') :
  wpAny (model prog w) A (pyNext (.ref a)) Q E s := by
 obtain ⟨m, ox, od, fr, I⟩ := zDO R hled da
 have ok' : FmOk (cfT w.params b x) F := zAY (C := cfK w.params) (C' := cfT w.params b x) rfl ok (by first | exact fun _ => rfl | exact fun _ => by assumption | exact fun h => h)
 refine owit_next (f := 741) fr ok.X I (by kernel_rfl) (by kernel_rfl) (wpAny_call ?_)
 by_cases ht : x.quoted = true ∨ Fast.sEq x.tok "" = false
 ·exact zOJ ok' hA hh hd hu R da hled hq hc hxq ht fun z s' u R' nx d => tok ht z s' u R' nx d
 ·have ht' : x.quoted = false ∧ Fast.sEq x.tok "" = true := by
   constructor
   ·cases hb : x.quoted with
    | false => rfl
    | true => exact absurd (.inl hb) ht
   ·cases hb : Fast.sEq x.tok "" with
    | true => rfl
    | false => exact absurd (.inr hb) ht
  refine zMA ok' hA hh hd hu R da hled hq hc hxq ht' fun z s' e R' nx ho => ?_
  show OwitStop _ _ _ _ _ _
  unfold OwitStop
  refine wpAny_isInstance (show s'.TypeIs (.ref e) "StopIteration" from ho) owsi_facts.sub ?_
  rw [if_pos rfl]
  exact stop ht' z s' R' nx
theorem zOq {R : Result → Shared → Prop} {aS aL : Addr} {res : Value} (ok : FmOk (cfK w.params) F) (hA : A.frames = some F.stk) (hh : A.handled = none) (hd : A.depth + 1 + 130 < recursionLimit) (hu : A.units + 1 + 3 + 8 * 130 < cLine) :
  ∀ {q : SV} {i p : Int} {toks : List Str}, LexAll b q i p toks → ∀ {ads : Wd} {st : St} {s : Shared} {ys : List SV}, st.led = zAC q (.str "") i b p [] ++ [.list ys] → ys.length + toks.length ≤ sizeLine → Rep w F ads st s.heap → Den F.B ads (.obj 0) (.ref aL) → Den F.B ads (.obj 4) (.ref aS) →
   (∀ z s' q' i' p', Rep w F (wa ads (⟨[], z⟩ : Wd)) ⟨st.loc, zAC q' (.str "") i' b p' [] ++ [.list (ys ++ toks.map .str)]⟩ s'.heap → Nx F s s' → zAe q' → R (.ok (.ret res)) s') →
   codeAny (model prog w) A (.builtin "list.extend.loop" ⟨[.ref aS, .ref aL, res], []⟩) R s := by
 intro q i p toks hL
 induction hL with
 | stop hq hxq hc h1 h2 =>
  rename_i q i p x
  intro ads st s ys hled hlen Rp dL dS fin
  refine codeAny_builtin PySem.F.entry_extend_loop ?_
  rw [Around.under_plainId PySem.F.plain_extend_loop _]
  show wpAny _ A.in1 (pyNext (.ref aL) >>= _) _ _ s
  refine wpAny_bind (zJV (A := A.in1) ok hA hh (by show A.depth + 1 + 130 < _; lia) (by show A.units + 1 + 3 + 8 * 130 < _; lia) Rp dL hled hq hc hxq (fun h => ?_) fun _ z s' R' nx => ?_)
  ·rcases h with h | h
   ·rw [h1] at h; cases h
   ·rw [h2] at h; cases h
  ·exact wpAny_pure (fin z s' _ _ _ (by rw [List.map_nil, List.append_nil]; exact R') nx hxq)
 | tok hq hxq hc h1 hr ih =>
  rename_i q i p x toks
  intro ads st s ys hled hlen Rp dL dS fin
  refine codeAny_builtin PySem.F.entry_extend_loop ?_
  rw [Around.under_plainId PySem.F.plain_extend_loop _]
  show wpAny _ A.in1 (pyNext (.ref aL) >>= _) _ _ s
  refine wpAny_bind (zJV (A := A.in1) ok hA hh (by show A.depth + 1 + 130 < _; lia) (by show A.units + 1 + 3 + 8 * 130 < _; lia) Rp dL hled hq hc hxq (fun _ z s' u R' nx du => ?_) fun h => ?_)
  ·obtain ⟨a, vs, n, e, ho, D, upd⟩ := zBq R' (i := 4) (xs := ys) rfl dS.mono
   cases e
   show wpAny _ A.in1 (updateSeq aS (·.push u) >>= _) _ _ _
   have lv := D.length
   have hlen' : ys.length + (toks.length + 1) ≤ sizeLine := hlen
   refine wpAny_bind (wpAny_updateSeq ho rfl (wpAny_pure ⟨plainId_quiet PySem.F.plain_extend_loop _, ?_⟩) (by simp; lia) (by simp; lia))
   have ho' := Heap.get?_update_self (Obj.mapSeq (·.push u)) ho rfl
   have R'' := upd (s'.heap.update aS (Obj.mapSeq (·.push u))) (ys ++ [.str x.tok]) (vs ++ [u]) n.succ (by rw [ho']; simp [Obj.mapSeq]) (fun b hb o q => (Heap.get?_update_other _ _ (Ne.symm hb)).trans q) (D.append (.cons du .nil))
   refine ih (ads := (wa ads (⟨[], z⟩ : Wd))) (st := ⟨st.loc, zAC x.q (.str "") x.line b x.p [] ++ [.list (ys ++ [.str x.tok])]⟩) rfl (by simp; lia) R'' dL.mono dS.mono fun z2 s₂ q' i' p' R₂ nx₂ hq' => ?_
   rw [Wd.two] at R₂
   refine fin (z ++ z2) s₂ q' i' p' ?_ (nx.trans ((Nx.mk' s' _ s'.toks).trans nx₂)) hq'
   simpa using R₂
  ·rcases h1 with h1 | h1
   ·rw [h.1] at h1; cases h1
   ·rw [h.2] at h1; cases h1
theorem zRj {B : Heap} {W : Wd} {i : Nat} {v : Value} (d : Den B W (.obj i) v) : ∃ a, v = .ref a := let ⟨p, _, e⟩ := d; ⟨p.1, e⟩
theorem zMT {Q : Value → Shared → Prop} {ads : Wd} {st : St} {s : Shared} {q : SV} {i p : Int} {led₂ : List SO} {a : Addr} (ok : FmOk (cfK w.params) F) (hA : A.frames = some F.stk) (hh : A.handled = none) (hd : A.depth + 1 + 10 < recursionLimit) (hu : A.units + 3 + 8 * 10 < cLine)
  (R : Rep w F ads st s.heap) (da : Den F.B ads (.obj 0) (.ref a)) (hled : st.led = zAC q (.str "") i b p [] ++ led₂) (hq : zAe q)
  (fin : ∀ z s', Rep w F (wa ads (⟨[], z⟩ : Wd)) st s'.heap → Nx F s s' → Q (.ref a) s') :
  wpAny (model prog w) A (pyIter (.ref a)) Q E s := by
 obtain ⟨m, ox, od, fr, I⟩ := zDO R hled da
 refine owit_iter (f := 734) fr ok.X I (by kernel_rfl) (by kernel_rfl) (wpAny_call ?_)
 refine zBd (e := f722) (n := 10) (k := fun r st' => r = .v (.obj 0) ∧ st' = st) (Q := fun c s' => ∃ u, c = .v u ∧ OwitIt (model prog w) A Q E u s') (svs := [.obj 0]) (zBY (cokK w) 10) (zSp _) ok (fun _ => hA) hh hd hu R (.cons da .nil) rfl hled (okLx hq) (fun y hy => by rw [List.mem_singleton.mp hy]; show 0 < 4; lia) List.nodup_nil ?_ ?_ ?_
 ·show ev (cfK w.params) 10 (zAB s722).names (.sts (zAG s722)) { loc := [("self", .obj 0)], led := zAC q (.str "") i b p [] } _
  rw [zTp]
  exact ⟨.obj 0, .obj 0, _, .inl rfl, .keep (by show 0 < 4; lia), zRz hq, rfl, by rw [← hled]⟩
 ·intro r st' more c s' hk R' nx d
  obtain ⟨rfl, rfl⟩ := hk
  cases c with
  | v u =>
   obtain ⟨z, rfl⟩ := zDx R R' rfl
   have : u = .ref a := by
    obtain ⟨p1, h1, e1⟩ := da
    obtain ⟨p2, h2, e2⟩ := d
    rw [Wd.ads_append, List.append_nil, h1] at h2
    cases h2
    exact e2.trans e1.symm
   subst this
   obtain ⟨m, ox, od, fr, I⟩ := zDO R' hled da.mono
   exact ⟨_, rfl, owit_it (g := .ref 741) fr ok.X I (by kernel_rfl) (fin z s' R' nx)⟩
  | _ => exact d.elim
 ·rintro u s' ⟨_, e, h⟩; cases e; exact h
theorem zOL {Q : Value → Shared → Prop} {ads : Wd} {st : St} {s : Shared} {q : SV} {i p : Int} {toks : List Str} {v : Value} (ok : FmOk (cfK w.params) F) (hd : F.A.depth + 1 + 130 < recursionLimit) (hu : F.A.units + 3 + 3 + 8 * 130 < cLine)
  (hL : LexAll b q i p toks) (hlen : toks.length ≤ sizeLine) (hq : zAe q) (R : Rep w F ads st s.heap) (da : Den F.B ads (.obj 0) v) (hled : st.led = zAC q (.str "") i b p [])
  (fin : ∀ more s' u q' i' p', Rep w F (wa ads more) ⟨st.loc, zAC q' (.str "") i' b p' [.list (toks.map .str)]⟩ s'.heap → Nx F s s' → Den F.B (wa ads more) (.obj 4) u → Q u s') :
  wpAny (model prog w) F.A (call (.type "list") [v]) Q E s := by
 obtain ⟨a, rfl⟩ := zRj da
 refine callType_codes (Q₁ := fun obj s₁ => obj = .ref s.heap.objs.size ∧ s₁ = { s with heap := s.heap.push { cls := .type "list", data := .seq #[] } }) PySem.F.called_list (PySem.F.typeCall_list_1 _) PySem.F.entry_list_init
  (code_list_new _ ⟨rfl, rfl⟩) fun obj s₁ h₁ => ?_
 obtain ⟨rfl, rfl⟩ := h₁
 have hS : (s.heap.push { cls := .type "list", data := .seq #[] }).get? s.heap.objs.size = some { cls := .type "list", data := .seq #[] } := Heap.get?_push_size _ rfl
 have R1 : Rep w F (wa ads (.one s.heap.objs.size 0)) ⟨st.loc, zAC q (.str "") i b p [] ++ [.list []]⟩ (s.heap.push { cls := .type "list", data := .seq #[] }) := by
  have := zAr (o := { cls := .type "list", data := .seq #[] }) (so := .list []) rfl R (One.list (vs := []) (n := 0) .nil)
  rw [hled] at this; exact this
 have d4 : Den F.B (wa ads (.one s.heap.objs.size 0)) (.obj 4) (.ref s.heap.objs.size) := by
  refine ⟨(s.heap.objs.size, 0), ?_, rfl⟩
  have := zBz ads s.heap.objs.size 0
  rw [← zBg R, hled] at this; exact this
 have hne : s.heap.objs.size ≠ a := by
  intro e
  obtain ⟨m, ox, od, fr, I⟩ := zDO (led₂ := []) R (by rw [hled, List.append_nil]) da
  have := Heap.lt_size I.at_
  rw [e] at this
  exact Nat.lt_irrefl _ this
 refine ⟨⟨_, hS, rfl⟩, PySem.F.args_list_init_2 _ _, ?_⟩
 show wpAny _ F.A.in1.in1 (do let old ← Builtin.List.listItems (.ref s.heap.objs.size); Builtin.List.listUpdate (.ref s.heap.objs.size) (fun _ => #[]); letGo old.toList.reverse; Builtin.List.listExtendWith (.ref s.heap.objs.size) (.ref a) .none) _ _ _
 refine wpAny_bind ?_
 unfold Builtin.List.listItems
 refine wpAny_bind (wpAny_seqItems hS rfl (wpAny_pure ?_))
 refine wpAny_bind (wpAny_updateSeq hS rfl ?_)
 refine wpAny_bind (wpAny_letGo ?_)
 -- the list is empty still
 obtain ⟨a', vs, n, e, ho, D, upd⟩ := zBq R1 (i := 4) (xs := []) rfl d4
 cases e
 cases D
 have hS₂ := Heap.get?_update_self (Obj.mapSeq (fun _ => (#[] : Array Value))) ho rfl
 have R2 := upd (((s.heap.push { cls := .type "list", data := .seq #[] }).update s.heap.objs.size (Obj.mapSeq (fun _ => (#[] : Array Value))))) [] [] _ hS₂ (fun b hb o q => (Heap.get?_update_other _ _ (Ne.symm hb)).trans q) .nil
 obtain ⟨m, ox, od, fr, I⟩ := zDO (s := { s with heap := ((s.heap.push { cls := .type "list", data := .seq #[] }).update s.heap.objs.size (Obj.mapSeq (fun _ => (#[] : Array Value)))) }) R2 rfl da.mono
 unfold Builtin.List.listExtendWith
 refine wpAny_bind (I.type.here ?_)
 have h1 : Builtin.List.listSameRef (.ref s.heap.objs.size) (.ref a) = false := by simp [Builtin.List.listSameRef, hne]
 have h2 : (Value.ref 744 == Value.type "list") = false := by decide
 have h3 : (Value.ref 744 == Value.type "tuple") = false := by decide
 simp only [h1, h2, h3, Bool.or_false, Bool.false_eq_true, if_false]
 refine wpAny_bind (zMT (A := F.A.in1.in1) ok (ok.stack rfl) ok.hand (by show F.A.depth + 1 + 10 < _; lia) (by show F.A.units + 1 + 1 + 3 + 8 * 10 < _; lia) R2 da.mono rfl hq fun z3 s₃ R3 nx3 => ?_)
 obtain ⟨m3, ox3, od3, fr3, I3⟩ := zDO R3 rfl da.mono.mono
 refine wpAny_bind (wpAny_holding ?_)
 unfold Builtin.List.listLengthHint
 refine wpAny_bind (wpAny_bind (I3.type.here ((looks_findIn (K := KK w.params) (ok.X.keeps fr3.keep) (name := "__len__") (r := none) (by kernel_rfl)).here ?_)))
 show wpAny _ F.A.in1.in1 (specialOf (Value.ref a) (Str.ofString "__length_hint__") >>= _) _ _ _
 refine wpAny_bind (wpAny_bind (I3.type.here ((looks_findIn (K := KK w.params) (ok.X.keeps fr3.keep) (name := "__length_hint__") (r := none) (by kernel_rfl)).here ?_)))
 refine wpAny_pure ?_
 show wpAny _ F.A.in1.in1 (rule "list.extend.makes-room" >>= fun _ => Builtin.List.listTouch (.ref s.heap.objs.size) >>= fun _ =>
  again (.builtin "list.extend.loop" ⟨[.ref s.heap.objs.size, .ref a, .none], []⟩)) _ _ _
 refine wpAny_bind (wpAny_rule ?_)
 obtain ⟨a4, vs4, n4, e4, ho4, D4, upd4⟩ := zBq R3 (i := 4) (xs := []) rfl d4.mono
 cases e4
 cases D4
 refine wpAny_bind ?_
 show wpAny _ F.A.in1.in1 (updateSeq s.heap.objs.size (·.push .none) >>= fun _ => updateSeq s.heap.objs.size (·.pop)) _ _ _
 refine wpAny_bind (wpAny_updateSeq ho4 rfl ?_)
 have hS₅ := Heap.get?_update_self (Obj.mapSeq (·.push Value.none)) ho4 rfl
 refine wpAny_updateSeq hS₅ rfl ?_
 have hS₆ := Heap.get?_update_self (Obj.mapSeq (·.pop)) hS₅ rfl
 have R4 := upd4 _ [] [] _ hS₆ (fun b hb o q => (Heap.get?_update_other _ _ (Ne.symm hb)).trans ((Heap.get?_update_other _ _ (Ne.symm hb)).trans q)) .nil
 refine wpAny_pure ⟨plainId_quiet PySem.F.plain_extend_loop _, ?_⟩
 refine zOq (A := F.A.in1) ok (ok.stack rfl) ok.hand (by show F.A.depth + 1 + 130 < _; lia) (by show F.A.units + 1 + 1 + 3 + 8 * 130 < _; lia) hL (s := { s₃ with heap := _ }) rfl (by simpa using hlen) R4 da.mono.mono d4.mono fun z5 s₅ q' i' p' R5 nx5 hq' => ⟨rfl, ?_⟩
 rw [Wd.append_assoc, Wd.append_assoc] at R5
 refine fin _ s₅ _ q' i' p' R5 (((Nx.mk' s _ s.toks).trans nx3).trans ((Nx.mk' s₃ _ s₃.toks).trans nx5)) ?_
 have := (d4.mono (more := ⟨[], z3⟩)).mono (more := ⟨[], z5⟩)
 rw [Wd.append_assoc, Wd.append_assoc] at this
 exact this
end
section
variable {w : World} {h : Heap}
theorem zKC (X : (KK w.params).In h) : Looks (model prog w) h (Bind.madeBy (.ref 609)) none := Looks.of_peek X (by kernel_rfl)
theorem zQX (X : (KK w.params).In h) : Looks (model prog w) h (mroOf (.ref 609)) [.ref 609, .ref 132, .ref 105, .type "object"] := Looks.of_peek X (by kernel_rfl)
theorem zNk (X : (KK w.params).In h) : Looks (model prog w) h (isSubtype (.ref 609) (.ref 609)) true := Looks.of_peek X (by kernel_rfl)
theorem zNo (X : (KK w.params).In h) : Looks (model prog w) h (specialOf (.ref 609) "__call__") (some (.builtin "type.__call__")) := Looks.of_peek X (by kernel_rfl)
theorem zQW (X : (KK w.params).In h) : Looks (model prog w) h (isInstance (.ref 609) (.type "type")) true := Looks.of_peek X (by kernel_rfl)
theorem zNm (X : (KK w.params).In h) : Looks (model prog w) h (typeLookup (.ref 609) "__init__") (some (.ref 379)) := Looks.of_peek X (by kernel_rfl)
theorem zKD (X : (KK w.params).In h) : Looks (model prog w) h (isType (.ref 609)) true := Looks.of_peek X (by kernel_rfl)
theorem zIR (X : (KK w.params).In h) : Looks (model prog w) h (checkBuiltinCall "object.__new__" ⟨[.ref 609], []⟩) () := Looks.of_peek X (by kernel_rfl)
theorem zNn (X : (KK w.params).In h) : Looks (model prog w) h (Bind.madeHere "object.__new__" (.ref 609)) () := Looks.of_peek X (by kernel_rfl)
theorem zJI (X : (KK w.params).In h) : ∃ oc od cd sl, h.get? 609 = some ⟨oc, od, .cls cd, sl⟩ ∧ cd.abstract = false ∧ cd.hasDel = false := ⟨_, _, _, _, X _ _ (by kernel_rfl : (KK w.params).lookup 609 = some (o597 w.params)), rfl, rfl⟩
end
section
variable {w : World} {A : Around} {R : Result → Shared → Prop} {h : Heap} {g : Array GenState} {d : Drawn} {t : Nat} {os : OsState}
theorem zLW (X : (KK w.params).In h) (hq : R (.ok (.ret (.ref (h.objs.size + 1)))) ⟨(h.push emptyDict).push (instObj 609 h.objs.size), g, d, t, os⟩) :
  codeAny (model prog w) A (.call (.builtin "object.__new__") ⟨[.ref 609], []⟩) R ⟨h, g, d, t, os⟩ := by
 obtain ⟨oc, od, cd, sl, hC, e1, e2⟩ := zJI X
 have F := PySem.F.objNew
 refine codeAny_call_builtin_code (Code.quiet_builtin _ F.quiet) ((zIR X).at ?_)
 refine codeAny_builtin F.entry ?_
 unfold Builtin.«object.__new__»
 have it := zKD X
 have here := zNn X
 have hC' := Heap.get?_push_of_some (instObj 609 (h.push emptyDict).objs.size.pred) (Heap.get?_push_of_some emptyDict hC)
 have fin : ∀ A', wpAny (model prog w) A' (do
   let d ← if typeHasDict (.ref 609) then some <$> alloc { cls := .type "dict", data := .dict #[] } else pure none
   ret (← newObj (.ref 609) .plain d)) (fun fin s' => match fin with | .done f => R (.ok f) s' | .again c' => c'.quiet = true ∧ codeAny (model prog w) A c' R s') (fun e s' => R (.error e) s') ⟨h, g, d, t, os⟩ := by
  intro A'
  show wpAny _ _ ((alloc emptyDict >>= fun x => pure (some x)) >>= _) _ _ _
  refine wpAny_bind (wpAny_bind (wpAny_alloc (wpAny_pure (wpAny_bind ?_))))
  show wpAny _ _ (newObjAsIs _ _ _) _ _ _
  unfold newObjAsIs classHasDel
  refine wpAny_bind (wpAny_alloc (wpAny_bind (wpAny_bind (wpAny_load (Heap.get?_push_of_some _ (Heap.get?_push_of_some _ hC)) (wpAny_pure ?_)))))
  rw [e2]
  refine wpAny_pure (wpAny_pure ?_)
  show R _ _
  rw [Heap.size_push]
  exact hq
 repeat (first | simp only [e1, Bool.false_eq_true, if_false] | exact fin _ | lk)
end
theorem zSQ : ∃ p1 p2 p3 p4 p5 p6 p7 p8 p9 p10 p11 p12 p13 b, zAG s90 = [.If (.BoolOp .And [.Compare (.Name "cls" p1) [.IsNot] [.Name "BytesIO" p2] p3, .Compare (.Name "cls" p4) [.IsNot] [.Name "StringIO" p5] p6] p7) b [] p8,
  .Return (some (.Call (.Attribute (.Name "object" p9) "__new__" p10) [.Name "cls" p11] [] p12)) p13] ∧ (p10.endLine == p12.line) = true ∧ behindInMarks .IsNot (.Name "BytesIO" p2) = false ∧ behindInMarks .IsNot (.Name "StringIO" p5) = false :=
 let a := stAt 0 (zAG s90); let c := stAt 1 (zAG s90); let e := sEx a; let f := sEx c
 ⟨kp e [0, 0], kp e [0, 1], kp e [0], kp e [1, 0], kp e [1, 1], kp e [1], kp e [], a.pos, kp f [0, 0], kp f [0], kp f [1], kp f [], c.pos, sBo a, by kernel_rfl, by kernel_rfl, by kernel_rfl, by kernel_rfl⟩
noncomputable def gN : List (Str × Value) := [("BytesIO", .ref 362), ("StringIO", .ref 609), ("object", .type "object")]
theorem gokN (P : Params) : ∀ p ∈ gN, zCI (KK P) p :=
 zAA ⟨by kernel_rfl, .inl (by kernel_rfl)⟩ <| zAA ⟨by kernel_rfl, .inl (by kernel_rfl)⟩ <| zAA ⟨by kernel_rfl, .inr ⟨by kernel_rfl, by kernel_rfl, by kernel_rfl⟩⟩ <| zAD
noncomputable def cfN (P : Params) : Cf where
 K := KK P
 globs := gN
 fns := []
 cls := []
theorem cokN (w : World) : CfOk w (cfN w.params) := ⟨zAD, zAD, zAn (gokN _), zAD, zAD, zAD⟩
section
variable {w : World} {C : Cf} {F : Fm} {ads : Wd} {s : Shared} {st : St} {E : Value → Shared → Prop}
theorem zLz {A : Around} {x : Str} {p : Pos} {v : Value} {Q : Value → Shared → Prop} (ok : FmOk C F) (hk : zAb x F.sc.names = some .local) (hv : lk x st.loc = some (.val v)) (hdb : Fast.sEq x "__debug__" = false)
  (R : Rep w F ads st s.heap) (q : Q v s) : wpAny (model prog w) A (eval (.Name x p) F.env) Q E s := by
 rw [zAV] at hk
 obtain ⟨m, news, lw, u, X, a, b⟩ := zCo R hv
 obtain ⟨rfl, _⟩ := b
 exact ldE ok X.fr hk a q (by rw [zBX]; exact hdb)
theorem zBP {A : Around} {x : Str} {p : Pos} {v : Value} {Q : Value → Shared → Prop} (cok : CfOk w C) (ok : FmOk C F) (hk : zAb x F.sc.names = some .globalImplicit) (hv : lk x C.globs = some v) (hdb : Fast.sEq x "__debug__" = false)
  (R : Rep w F ads st s.heap) (q : Q v s) : wpAny (model prog w) A (eval (.Name x p) F.env) Q E s := by
 rw [zAV] at hk
 have hdb' : (x == ("__debug__" : Str)) = false := by rw [zBX]; exact hdb
 obtain ⟨m, news, lw, X⟩ := R
 obtain ⟨d, g⟩ := cok.globs x v hv
 obtain ⟨mg, mb, G1, G2, G3⟩ := ok.G.ns
 rcases g with g | ⟨g, g', g''⟩
 ·exact ldG ok X.fr G1 (mg_of ok.X G1 g) q hk hdb'
 ·exact ldB ok X.fr G1 (mg_none_of ok.X G1 g) G2 ((G3 x g'').trans g') q hk hdb'
theorem nw0 : typeOf (.type "object") = pure (.type "type") := by kernel_rfl
theorem nw1 : Manifest.isStub "object" = false := by decide +kernel
theorem nw2 (P : Params) : PySem.W.findCls (KK P) (.type "object") (.type "type") "__new__" = some (PySem.W.CFound.val (.builtin "object.__new__")) := by kernel_rfl
theorem nw3 : handedIn (.builtin "object.__new__") = true := by rfl
theorem zKS {Q : Value × List Value → Shared → Prop} {pl : Sem Bool} (ok : FmOk (cfN w.params) F) (R : Rep w F ads st s.heap) (q : Q (.builtin "object.__new__", []) { s with toks := s.toks + 1 }) :
  wpAny (model prog w) F.A (getMethod (.type "object") "__new__" pl) Q E s := by
 obtain ⟨m, news, lw, X⟩ := R
 have XK : (KK w.params).In F.h₀ := ok.X
 have XF := X.fr
 have e2 := nw2 w.params
 clear X ok
 revert XK e2
 generalize KK w.params = K
 intro XK e2
 exact @method_type prog w F.A E s K F.L F.h₀ m "__new__" (.builtin "object.__new__") "object" pl Q XF XK nw0 nw1 e2 nw3 q
theorem zTN (v : Value) : bindArgs (fnOf "__new__" "IOBase.__new__" (zBD s90) (zAG s90) (zAB s90) .none .none .none (.str "io" 371) none (.ref 101) .none) ⟨[.ref 609, v], []⟩ =
  (newTuple [v] >>= fun tp => alloc { cls := .type "dict", data := .dict #[] } >>= fun d => pure ([("cls", .ref 609), ("args", tp), ("kwargs", .ref d)] : List (Str × Value))) := by kernel_rfl
noncomputable def f90 : FnE := ⟨102, 1, ["cls"], [], zAG s90, zAB s90, "IOBase.__new__", .ref 101, []⟩
theorem zTw (P : Params) : FnOk0 (KK P) f90 := by
 obtain ⟨h0, h1, h2, h3, h4, h5, h6, h7, h8⟩ := zEn (e := f90) (by kernel_rfl)
 refine ⟨⟨_, _, _, _, (by kernel_rfl : (KK P).lookup 102 = some (o90 P)), rfl, rfl, fun _ _ => rfl, rfl, rfl⟩, zBw h0, (by kernel_rfl), fun n => (cellsFrom_names f90.scope.names n 0 [] [] rfl).trans (zGu h1), h5, h6, ?_⟩
 exact zCw h7
theorem zTg {A : Around} {v : Value} {Rr : Result → Shared → Prop} (ok : FmOk (cfN w.params) F) (hA : A.frames = some F.stk) (hh : A.handled = none) (hd : A.depth + 1 < recursionLimit)
  (R : Rep w F ads st s.heap) (fin : ∀ z h', Rep w F (wa ads (⟨[], z⟩ : Wd)) st h' → ∀ t, Rr (.ok (.ret (.ref (h'.objs.size + 1)))) { s with heap := (h'.push emptyDict).push (instObj 609 h'.objs.size), toks := t }) :
  codeAny (model prog w) A (.call (.ref 102) ⟨[.ref 609, v], []⟩) Rr s := by
 refine zHl (e := f90) (C := cfN w.params) (loc₀ := [("cls", .val (.ref 609))]) (led₁ := []) (led₂ := st.led) (zTw _) ok (fun _ => hA) hh (by lia) R rfl trivial ⟨trivial, trivial⟩ List.nodup_nil (fun oc od osl fd g1 XK M A E Q hQ => ?_) fun F' W Wc h₁ t ok' eA eS eB eT eZ eL R0' back bv => ?_
 ·have e : (KK w.params).lookup 102 = some (o90 w.params) := by kernel_rfl
  have e' := e.symm.trans g1
  cases e'
  show wpAny M A (bindArgs (fnOf "__new__" "IOBase.__new__" (zBD s90) (zAG s90) (zAB s90) .none .none .none (.str "io" 371) none (.ref 101) .none) ⟨[.ref 609, v], []⟩) Q E s
  rw [zTN]
  refine wpAny_bind (wpAny_newTuple (wpAny_bind (wpAny_alloc (wpAny_pure ?_))) (by show 1 ≤ sizeLine; decide))
  refine hQ _ _ (fun b o q => Heap.get?_push_of_some _ (Heap.get?_push_of_some _ q)) (fun x hx => ?_) (by show (["cls", "args", "kwargs"] : List Str).Nodup; exact zEX (by kernel_rfl)) (fun x sv hx => ?_) fun x _ hc => absurd hc List.not_mem_nil
  ·have hk : ∀ x ∈ (["cls", "args", "kwargs"] : List Str), f90.scope.names.lookup x = some .local ∨ (f90.scope.names.lookup x = some .cell ∧ x ∈ f90.cells) := zCg (by kernel_rfl)
   refine hk x.1 ?_
   rcases List.mem_cons.mp hx with rfl | hx
   ·exact .head _
   rcases List.mem_cons.mp hx with rfl | hx
   ·exact .tail _ (.head _)
   rw [List.mem_singleton.mp hx]
   exact .tail _ (.tail _ (.head _))
  ·unfold lk at hx
   split at hx
   ·rename_i q
    cases hx
    rw [zAO q]
    exact ⟨_, .head _, rfl, rfl⟩
   ·cases hx
 ·have R' := zKx eZ eL R0'
  have eN : F'.sc.names = (zAB s90).names := by rw [eS]; rfl
  show wpAny (model prog w) F'.A (execs (zAG s90) F'.env) _ _ _
  obtain ⟨p1, p2, p3, p4, p5, p6, p7, p8, p9, p10, p11, p12, p13, b, e, hp, hb1, hb2⟩ := zSQ
  rw [e]
  have XK : (KK w.params).In h₁ := zFL (s := { s with heap := h₁ }) ok' R'
  have cok := cokN w
  have nCls : zAb "cls" F'.sc.names = some .local := by rw [eN]; kernel_rfl
  have nB : zAb "BytesIO" F'.sc.names = some .globalImplicit := by rw [eN]; kernel_rfl
  have nS : zAb "StringIO" F'.sc.names = some .globalImplicit := by rw [eN]; kernel_rfl
  have nO : zAb "object" F'.sc.names = some .globalImplicit := by rw [eN]; kernel_rfl
  have R2 : Rep w F' W ⟨[("cls", .val (.ref 609))], []⟩ ({ s with heap := h₁, toks := t } : Shared).heap := R'
  refine wpAny_execs_cons (wpAny_If (isTrue_and (wpAny_isTrue_Compare1 (zLz ok' nCls rfl (by kernel_rfl) R2 (zBP cok ok' nB (by kernel_rfl) (by kernel_rfl) R2 (wpAny_isNot_ref_other (by decide) (XK _ _ (by kernel_rfl : (KK w.params).lookup 609 = some (o597 w.params))) (XK _ _ (by kernel_rfl : (KK w.params).lookup 362 = some (o350 w.params))) (by show (Value.type "type") ≠ .type "tuple"; decide) (wpAny_truthy_bool ?_)))) hb1)))
  show wpAny _ _ (PySem.isTrue (.BoolOp .And [_] _) _ _) _ _ _
  refine isTrue_and (wpAny_isTrue_Compare1 (zLz ok' nCls rfl (by kernel_rfl) R2 (zBP cok ok' nS (by kernel_rfl) (by kernel_rfl) R2 (wpAny_isNot_ref_self (wpAny_truthy_bool ?_)))) hb2)
  show wpAny _ _ (execs [] _) _ _ _
  refine wpAny_execs_nil ?_
  refine wpAny_execs_cons (wpAny_Return_some (MethodCall_ (zBP cok ok' nO (by kernel_rfl) (by kernel_rfl) R2 (zKS ok' R2 ?_)) (zDy (by unfold mcOk; rw [hp]; rfl))))
  refine zAS (fun a e => nomatch e) rfl (spliced_more (zLz ok' nCls rfl (by kernel_rfl) (s := { s with heap := h₁, toks := t + 1 }) R2 (spliced_none (wpAny_call ?_))) rfl)
  refine zLW XK ?_
  have := fin [] h₁ (by have := back [] _ _ _ (by rw [show (wa W (⟨[], []⟩ : Wd)) = W from Wd.append_nil W]; exact R'); exact this) (t + 1)
  exact this
end
set_option maxHeartbeats 1000000
section
variable {w : World} {F : Fm} {ads : Wd} {s : Shared} {st : St} {E : Value → Shared → Prop}
theorem zKV {M : Model} {h : Heap} {c : Addr} (st : ∃ o, h.get? cStatics = some o ∧ lookIn "thirdparty.any" o = some none) : Looks M h (opaqueClassAbove (.ref c)) none := by
 obtain ⟨o, ho, e⟩ := st
 have l : Looks M h (nsGet cStatics "thirdparty.any") none := by
  intro A Q E s k q
  refine wpAny_bind (wpAny_loadPart (k _ _ ho) ?_)
  rw [nsLook_of e]
  exact wpAny_pure q
 exact Looks.andThen (a := false) (l.andThen .now) (by show Looks M h (if (!false) = true then pure none else _) none; rw [if_pos (show (!false) = true from rfl)]; exact .now)
theorem zNt {C : Cf} (ok : FmOk C F) (R : Rep w F ads st s.heap) : ∃ o, s.heap.get? cStatics = some o ∧ lookIn "thirdparty.any" o = some none := by
 obtain ⟨m, news, lw, X⟩ := R
 obtain ⟨o, a, b⟩ := ok.G.stat
 exact ⟨o, X.fr.keep _ _ a, b⟩
theorem sm1 (P : Params) : PySem.W.findCls (KK P) (.ref 609) (.type "type") "__new__" = some (PySem.W.CFound.get (.builtin "staticmethod.__get__") (.ref 106) .none (.ref 609)) := by kernel_rfl
theorem sm2 (P : Params) : findIn (KK P) (.type "type") "__getattribute__" = some (some (.builtin "type.__getattribute__")) := by kernel_rfl
theorem sm3 (P : Params) : (if onTheHeap (.type "type") then findIn (KK P) (.type "type") "__getattr__" else some none) = some none := by kernel_rfl
theorem sm4 (P : Params) : subIn (KK P) (.type "type") (.type "type") = some true := by kernel_rfl
theorem sm5 (P : Params) : recIn (KK P) 106 "staticmethod" = some [.ref 102] := by kernel_rfl
theorem sm6 (P : Params) : typeIn (KK P) (.ref 609) = some (.type "type") := by kernel_rfl
theorem zKE {A : Around} {expr : Bool} {Q : Value → Shared → Prop} (X : (KK w.params).In s.heap) (hs : ∃ o, s.heap.get? cStatics = some o ∧ lookIn "thirdparty.any" o = some none) (h : Q (.ref 102) { s with toks := s.toks + 1 }) : wpAny (model prog w) A (getAttr (.ref 609) "__new__" expr) Q E s :=
 cls_open X (zKV hs) (looks_typeIn X (sm6 _)) (sm2 _) (looks_hook X (sm3 _)) (sm4 _) (sm1 _) (wpAny_bind (wpAny_holding (wpAny_mono (wpAny_call (sm_get (s := { s with toks := s.toks + 1 }) X (sm5 _) (handed_on (E := E) rfl h))) (fun _ _ z => wpAny_pure z) fun _ _ z => z)))
end
section
variable {w : World} {F : Fm} {ads : Wd} {s : Shared} {st : St} {E : Value → Shared → Prop} {A : Around} {Rr : Result → Shared → Prop}
theorem zNl {v : Value} (ok : FmOk (cfN w.params) F) (hA : A.frames = some F.stk) (hh : A.handled = none) (hd : A.depth + 2 < recursionLimit) (R : Rep w F ads st s.heap)
  (fin : ∀ z h' t, Rep w F (wa ads (⟨[], z⟩ : Wd)) st h' → codeAny (model prog w) (A.under (.builtin "type.__call__" ⟨[.ref 609, v], []⟩)) (.call (.ref 379) ⟨[.ref (h'.objs.size + 1), v], []⟩) (InitBack (h'.objs.size + 1) Rr) { s with heap := (h'.push emptyDict).push (instObj 609 h'.objs.size), toks := t }) :
  codeAny (model prog w) A (.call (.ref 609) ⟨[v], []⟩) Rr s := by
 have X : (KK w.params).In s.heap := zFL ok R
 have hs := zNt ok R
 obtain ⟨oc, od, cd, sl, hC, e1, e2⟩ := zJI X
 have call := zNo X
 have typ := zQW X
 have mro := zQX X
 have made := zKC X
 obtain ⟨h0, g, d, t, os⟩ := s
 dsimp only at X hs hC call typ mro made R
 refine codeAny_of_tree ?_
 show wpAny _ _ (callAny (.ref 609) _) _ _ _
 refine nd_load hC ?_
 show wpAny _ _ (callAny.viaDunder (.ref 609) _) _ _ _
 unfold callAny.viaDunder
 refine wpAny_bind (call.at ?_)
 dsimp only
 rw [tc_bind]
 refine wpAny_bind (wpAny_pure (wpAny_bind (wpAny_pure ?_)))
 refine wpAny_pure (a := Fin.again (.call (.builtin "type.__call__") ⟨.ref 609 :: [v], []⟩)) (And.intro rfl ?_)
 refine codeAny_call_builtin_at (Code.quiet_builtin _ (by decide +kernel)) entry_typeCall (check_slot tc_kind tc_split typ (tc_args _ _ _) ?_)
 unfold Builtin.«type.__call__»
 repeat ((fail_if_success (with_reducible show wpAny _ _ (Bind.madeBy _) _ _ _)); first | with_reducible refine wpAny_call ?_ | lk)
 refine made.at ?_
 dsimp only
 refine wpAny_bind (zKE X hs ?_)
 refine wpAny_bind (wpAny_holding (wpAny_call (zTg (s := ⟨h0, g, d, t + 1, os⟩) (A := A.under (.builtin "type.__call__" ⟨[.ref 609, v], []⟩)) ok hA hh (by show A.depth + 1 + 1 < _; omega) R fun z h' R' t' => ?_)))
 have X' : (KK w.params).In h' := zFL (s := ⟨h', g, d, t, os⟩) ok R'
 have k : ∀ b o, h'.get? b = some o → ((h'.push emptyDict).push (instObj 609 h'.objs.size)).get? b = some o := fun b o e => Heap.get?_push_of_some _ (Heap.get?_push_of_some _ e)
 have hx : ((h'.push emptyDict).push (instObj 609 h'.objs.size)).get? (h'.objs.size + 1) = some (instObj 609 h'.objs.size) := by heap_get
 have t1 : Looks (model prog w) ((h'.push emptyDict).push (instObj 609 h'.objs.size)) (typeOf (.ref (h'.objs.size + 1))) (.ref 609) := (Looks.ld hx).andThen .now
 have s1 := (zNk X').keeps k
 have i1 := (zNm X').keeps k
 have b1 := (bind_fn (M := model prog w) X' (f := 379) (.ref (h'.objs.size + 1)) (by kernel_rfl)).keeps k
 dsimp only
 unfold isInstance callSpecial? specialOf
 repeat (first | with_reducible refine wpAny_call ?_ | lk)
 refine codeAny_mono (fin z h' t' R') fun r s' z => ?_
 rcases r with e | (v | _ | _ | _) <;> first | exact z | exact z.elim | skip
 obtain ⟨rfl, z⟩ := z
 exact wpAny_pure (wpAny_pure z)
end
section
variable {w : World} {F : Fm} {ads : Wd} {st : St}
theorem zHB {h : Heap} (c : Addr) (R : Rep w F ads st h) : Rep w F (wa ads (.one (h.objs.size + 1) h.objs.size)) { st with led := st.led ++ [.inst c []] } ((h.push emptyDict).push (instObj c h.objs.size)) := by
 obtain ⟨m, news, lw, X⟩ := R
 have N' := (X.nw.push X.fr emptyDict).push (X.fr.push emptyDict) (instObj c h.objs.size)
 rw [Heap.size_push] at N'
 have efz : (wa ads (Wd.one (h.objs.size + 1) h.objs.size)).fz = ads.fz := by rw [Wd.fz_append]; exact List.append_nil _
 have pm : (news ++ [(h.objs.size + 1, instObj c h.objs.size), (h.objs.size, emptyDict)] ++ (ads.fz ++ lw)).Perm ((h.objs.size + 1, instObj c h.objs.size) :: (h.objs.size, emptyDict) :: (news ++ (ads.fz ++ lw))) := by
  have e : news ++ [(h.objs.size + 1, instObj c h.objs.size), (h.objs.size, emptyDict)] ++ (ads.fz ++ lw) = news ++ ([(h.objs.size + 1, instObj c h.objs.size), (h.objs.size, emptyDict)] ++ (ads.fz ++ lw)) := List.append_assoc _ _ _
  rw [e]
  have := List.perm_append_comm_assoc news [(h.objs.size + 1, instObj c h.objs.size), (h.objs.size, emptyDict)] (ads.fz ++ lw)
  exact this
 refine ⟨m, news ++ [(h.objs.size + 1, instObj c h.objs.size), (h.objs.size, emptyDict)], lw, (X.fr.push _).push _, fun p hp => N' p ?_, X.loc.mono, ?_, ?_, X.ups⟩
 ·rw [efz] at hp
  exact pm.mem_iff.mp hp
 ·have z := (X.led.mono (more := .one (h.objs.size + 1) h.objs.size)).append (LedR.cons (One.inst (C := c) (a := h.objs.size + 1) (d := h.objs.size) (es := []) (n := 0) .nil) LedR.nil)
  rw [List.append_nil] at z
  exact z
 ·rw [efz]
  refine (pm.map (·.1)).nodup_iff.mpr ?_
  rw [List.map_cons, List.nodup_cons, List.map_cons, List.nodup_cons]
  have old : ∀ p ∈ news ++ (ads.fz ++ lw), p.1 < h.objs.size := fun p hp => Heap.lt_size (X.nw p hp).1
  refine ⟨fun ha => ?_, fun ha => ?_, X.nd⟩
  ·rcases List.mem_cons.mp ha with e | ha
   ·exact absurd e (by show h.objs.size + 1 ≠ h.objs.size; lia)
   ·obtain ⟨p, hp, e⟩ := List.mem_map.mp ha
    have := old p hp
    rw [e] at this
    exact absurd this (by show ¬ (h.objs.size + 1 < h.objs.size); lia)
  ·obtain ⟨p, hp, e⟩ := List.mem_map.mp ha
   have := old p hp
   rw [e] at this
   exact Nat.lt_irrefl _ this
end
noncomputable def f367 : FnE := ⟨379, 2, ["self", "initial_value"], [("newline", .str "\n" 775)], zAG s367, zAB s367, "StringIO.__init__", .ref 378, []⟩
theorem zSw (P : Params) : FnOk (KK P) f367 := FnOk.of (by kernel_rfl) (by kernel_rfl) ⟨_, _, _, _, (by kernel_rfl : (KK P).lookup 379 = some (o367 P)), rfl, rfl, fun _ _ => rfl, rfl, rfl, fun s vs X h => by
 obtain ⟨a, b, rfl⟩ := len2 h
 exact binds_K (K := KK P) X rfl (by kernel_rfl : (KK P).lookup 372 = some (o360 P)) rfl (by rfl) (by kernel_rfl)⟩
noncomputable def f374 : FnE := ⟨386, 2, ["self", "s"], [], zAG s374, zAB s374, "StringIO.__translated", .ref 385, []⟩
theorem zSv (P : Params) : FnOk (KK P) f374 := FnOk.of (by kernel_rfl) (by kernel_rfl) ⟨_, _, _, _, (by kernel_rfl : (KK P).lookup 386 = some (o374 P)), rfl, rfl, fun _ _ => rfl, rfl, rfl, fun s vs X h => by
 obtain ⟨a, b, rfl⟩ := len2 h
 exact BindsTo.of_eq (by kernel_rfl)⟩
noncomputable def cfS (P : Params) : Cf where
 K := KK P
 globs := g01
 fns := [f367, f374]
 cls := [c597]
theorem cokS (w : World) : CfOk w (cfS w.params) where
 fns := zAA ⟨zSw _, by kernel_rfl, zAP (by kernel_rfl)⟩ <| zAA ⟨zSv _, by kernel_rfl, zAP (by kernel_rfl)⟩ <| zAD
 cls := zAA (zFq _) <| zAD
 globs := zAn (zMl _)
 sps := zAD
 hxs := zAD
 hss := zAD
theorem zKF (P : Params) (b : Str) (a : SO) (k : Kt) : ev (cfS P) 30 (zAB s367).names (.sts (zAG s367)) { loc := [("self", .obj 1), ("initial_value", .str b), ("newline", .str "\n")], led := [a, .inst 609 []] } k =
   k .next { loc := [("self", .obj 1), ("initial_value", .str b), ("newline", .str "\n")], led := [a, sio b 0] } := by
  kernel_rfl
noncomputable def sioF (svs : List SV) (st : St) (k : Kt) : Prop := on1 svs fun x => onS x fun b => onE1 st.led fun a => k (.v (.obj 1)) { st with led := [a, sio b 0] }
noncomputable def sioSp : SpE := ⟨609, 1, 40, sioF⟩
theorem zKG {svs : List SV} {st : St} {k : Kt} (h : sioF svs st k) : ∃ b a, svs = [.str b] ∧ st.led = [a] ∧ k (.v (.obj 1)) { st with led := [a, sio b 0] } := by
 obtain ⟨x, rfl, h⟩ := zAc h
 obtain ⟨b, rfl, h⟩ := zAi h
 obtain ⟨a, hl, h⟩ := zBk h
 exact ⟨_, _, rfl, hl, h⟩
theorem zSB {w : World} {C : Cf} (hK : C.K = KK w.params) (hC : C.known = true) : SpOk w C sioSp := by
 refine ⟨by rw [hK]; kernel_rfl, ?_⟩
 intro F A ads st s svs vs k Q Rr ok hA hh hd hu h R D hl T hR
 replace hA : true = true → A.frames = some F.stk := fun _ => hA hC
 obtain ⟨b, a, rfl, hled, hk⟩ := zKG h
 have okN : FmOk (cfN w.params) F := zAY (by rw [hK]; rfl) ok (by first | exact fun _ => rfl | exact fun _ => by assumption | exact fun h => h)
 have okS : FmOk (cfS w.params) F := zAY (by rw [hK]; rfl) ok (by first | exact fun _ => rfl | exact fun _ => by assumption | exact fun h => h)
 have d40 : sioSp.d = 40 := rfl
 rw [d40] at hd hu
 cases D with
 | cons dv dr =>
  cases dr
  rename_i v
  refine zNl okN (hA rfl) hh (by lia) R fun z h' t R' => ?_
  have R2 := zHB 609 R'
  rw [Wd.append_assoc] at R2
  have e1 : ads.ads.length = 1 := by have := zBg R; rw [hled] at this; exact this.symm
  have dx : Den F.B (wa ads (wa (⟨[], z⟩ : Wd) (.one (h'.objs.size + 1) h'.objs.size))) (.obj 1) (.ref (h'.objs.size + 1)) := by
   refine ⟨(h'.objs.size + 1, h'.objs.size), ?_, rfl⟩
   rw [Wd.ads_append, ← e1]
   simp [Wd.one, Wd.ads_append]
  let k' : Kt := fun r st' => r = .v .none ∧ st' = { loc := st.loc, led := [a, sio b 0] }
  refine zCH (s := { s with heap := (h'.push emptyDict).push (instObj 609 h'.objs.size), toks := t }) (e := f367) (n := 30) (svs := [.obj 1, .str b]) (k := k') (Q := fun c s' => ∃ u, c = .v u ∧ u = .none ∧ Q (.v (.ref (h'.objs.size + 1))) s') (zBY (cokS w) 30) (cokS w) okS hA hh (by show A.depth + 1 + 30 < _; lia) (by show A.depth + 1 + 1 + 30 < _; lia) (by show A.units + 1 + 3 + 8 * 30 < _; lia) R2 (.cons dx (.cons dv.mono .nil)) (by kernel_rfl) ?_ ?_ ?_
  ·show ev (cfS w.params) 30 (zAB s367).names (.sts (zAG s367)) { loc := [("self", .obj 1), ("initial_value", .str b), ("newline", .str "\n")], led := st.led ++ [.inst 609 []] } _
   rw [hled]
   show ev (cfS w.params) 30 (zAB s367).names (.sts (zAG s367)) { loc := [("self", .obj 1), ("initial_value", .str b), ("newline", .str "\n")], led := [a, .inst 609 []] } _
   rw [zKF]
   exact ⟨rfl, rfl⟩
  ·rintro r st' more c s' ⟨rfl, rfl⟩ R3 nx d
   cases c with
   | v u =>
    refine ⟨u, rfl, d, ?_⟩
    rw [Wd.append_assoc] at R3
    exact T (.v (.obj 1)) _ _ (.v _) s' hk R3 ((Nx.mk' s _ t).trans nx) (by have := dx.mono (more := more); rw [Wd.append_assoc] at this; exact this)
   | _ => exact d.elim
  ·rintro u s' ⟨_, e, rfl, hq⟩
   cases e
   exact ⟨rfl, hR _ _ hq⟩
noncomputable def f656 : FnE := ⟨668, 5, ["self", "instream", "infile", "posix", "punctuation_chars"], [], zAG s656, zAB s656, "shlex.__init__", .ref 667, []⟩
theorem zSs (P : Params) : FnOk (KK P) f656 := FnOk.of (by kernel_rfl) (by kernel_rfl) ⟨_, _, _, _, (by kernel_rfl : (KK P).lookup 668 = some (o656 P)), rfl, rfl, fun _ _ => rfl, rfl, rfl, fun s vs X h => by
 obtain ⟨a, b, c, d, e, rfl⟩ := len5 h
 exact binds_K (K := KK P) X rfl (by kernel_rfl : (KK P).lookup 661 = some (o649 P)) rfl (by rfl) (by kernel_rfl)⟩
theorem zRl (P : Params) (a b : Value) (s : Shared) (X : (KK P).In s.heap) : BindsTo s (fnOf "__init__" "shlex.__init__" (zBD s656) (zAG s656) (zAB s656) (.ref 661) .none .none (.str "cpy313.shlex" 1106) none (.ref 667) .none) ⟨[a, b], [("posix", .bool true)]⟩ [("self", a), ("instream", b), ("infile", .none), ("posix", .bool true), ("punctuation_chars", .bool false)] :=
 binds_K (K := KK P) X rfl (by kernel_rfl : (KK P).lookup 661 = some (o649 P)) rfl (by rfl) (by kernel_rfl)
noncomputable def g02 : List (Str × Value) := ("StringIO", .ref 609) :: g01
theorem zTt (P : Params) : ∀ p ∈ g02, zCI (KK P) p := zAA ⟨by kernel_rfl, .inl (by kernel_rfl)⟩ (zMl P)
noncomputable def cfX (P : Params) : Cf where
 K := KK P
 globs := g02
 fns := [f656]
 cls := [c597, c732]
 sps := [sioSp]
theorem cokX (w : World) : CfOk w (cfX w.params) where
 fns := zAA ⟨zSs _, by kernel_rfl, zAP (by kernel_rfl)⟩ <| zAD
 cls := zAA (zFq _) <| zAA (zHp _) <| zAD
 globs := zAn (zTt _)
 sps := zAA (zSB rfl rfl) <| zAD
 hxs := zAD
 hss := zAD
noncomputable abbrev zHK (b : Str) : List SO := .inst 744 [("instream", .obj 1), ("infile", .none), ("posix", .bool true), ("eof", .none), ("commenters", .str "#"), ("wordchars", .str wch), ("whitespace", .str " \t\r\n"), ("whitespace_split", .bool false), ("quotes", .str "'\""), ("escape", .str "\\"), ("escapedquotes", .str "\""), ("state", .str " "), ("pushback", .obj 2), ("lineno", .int 1), ("debug", .int 0), ("token", .str ""), ("filestack", .obj 3), ("source", .none), ("_punctuation_chars", .str "")] :: sio b 0 :: dqO :: dqO :: []
theorem zKW (P : Params) (b : Str) (k : Kt) : ev (cfX P) 80 (zAB s656).names (.sts (zAG s656)) { loc := [("self", .obj 0), ("instream", .str b), ("infile", .none), ("posix", .bool true), ("punctuation_chars", .bool false)], led := [.inst 744 []] } k =
   ("str" = "str" ∧ 63 + 62 ≤ sizeLine ∧ k .next { loc := [("self", .obj 0), ("instream", .obj 1), ("infile", .none), ("posix", .bool true), ("punctuation_chars", .str "")], led := zHK b }) := by
  kernel_rfl
theorem zOO {w : World} {F : Fm} {ads : Wd} {s : Shared} {st : St} {A : Around} {Rr : Result → Shared → Prop} {b : Str} {v : Value} {C : Cf} (hK : C.K = KK w.params) (hC : C.known = true) (ok : FmOk C F) (hA : A.frames = some F.stk) (hh : A.handled = none) (hd : A.depth + 90 < recursionLimit) (hu : A.units + 8 * 90 < cLine)
  (hled : st.led = []) (R : Rep w F ads st s.heap) (dv : Den F.B ads (.str b) v)
  (fin : ∀ more s' u, Rep w F (wa ads more) { loc := st.loc, led := zHK b } s'.heap → Nx F s s' → Den F.B (wa ads more) (.obj 0) u → Rr (.ok (.ret u)) s') :
  codeAny (model prog w) A (.call (.ref 744) ⟨[v], [("posix", .bool true)]⟩) Rr s := by
 have okX : FmOk (cfX w.params) F := zAY (by rw [hK]; rfl) ok (by first | exact fun _ => rfl | exact fun _ => by assumption | exact fun h => h)
 have X : (KK w.params).In s.heap := zFL okX R
 obtain ⟨hh0, g, d, t, os⟩ := s
 dsimp only at X R
 refine make_core (makes_of X (by kernel_rfl)) (looks_findIn X (by kernel_rfl : findIn (KK w.params) (.ref 744) "__init__" = some (some (.ref 668)))) (fun self => bind_fn X self (by kernel_rfl)) (.inl rfl) ?_
 have R2 := zHB 744 R
 have e1 : ads.ads.length = 0 := by have := zBI R; rw [hled] at this; exact this.symm
 have dx : Den F.B (wa ads (.one (hh0.objs.size + 1) hh0.objs.size)) (.obj 0) (.ref (hh0.objs.size + 1)) := by
  refine ⟨(hh0.objs.size + 1, hh0.objs.size), ?_, rfl⟩
  have := zBz ads (hh0.objs.size + 1) hh0.objs.size
  rw [e1] at this; exact this
 let k' : Kt := fun r st' => r = .v .none ∧ st' = { loc := st.loc, led := zHK b }
 refine zDG (s := ⟨(hh0.push emptyDict).push (instObj 744 hh0.objs.size), g, d, t, os⟩) (e := f656) (n := 80) (svs := [.obj 0, .str b, .none, .bool true, .bool false]) (vs := [.ref (hh0.objs.size + 1), v, .none, .bool true, .bool false]) (k := k') (Q := fun c s' => ∃ u, c = .v u ∧ u = .none ∧ Rr (.ok (.ret (.ref (hh0.objs.size + 1)))) s') (zBY (cokX w) 80) (cokX w) okX (fun _ => hA) hh (by show A.depth + 1 + 80 < _; lia) (by show A.depth + 1 + 1 + 80 < _; lia) (by show A.units + 1 + 3 + 8 * 80 < _; lia) R2 (.cons dx (.cons dv.mono (.cons rfl (.cons rfl (.cons rfl .nil))))) (by kernel_rfl) (fun oc od osl fd g1 XK => ?_) ?_ ?_ ?_
 ·have e : (KK w.params).lookup 668 = some (o656 w.params) := by kernel_rfl
  have e' := e.symm.trans g1
  cases e'
  exact zRl w.params _ v _ XK
 ·show ev (cfX w.params) 80 (zAB s656).names (.sts (zAG s656)) { loc := [("self", .obj 0), ("instream", .str b), ("infile", .none), ("posix", .bool true), ("punctuation_chars", .bool false)], led := st.led ++ [.inst 744 []] } _
  rw [hled]
  show ev (cfX w.params) 80 (zAB s656).names (.sts (zAG s656)) { loc := [("self", .obj 0), ("instream", .str b), ("infile", .none), ("posix", .bool true), ("punctuation_chars", .bool false)], led := [.inst 744 []] } _
  rw [zKW]
  exact ⟨rfl, by decide, rfl, rfl⟩
 ·rintro r st' more c s' ⟨rfl, rfl⟩ R3 nx dd
  cases c with
  | v u =>
   refine ⟨u, rfl, dd, ?_⟩
   have := dx.mono (more := more)
   rw [Wd.append_assoc] at R3 this
   exact fin _ s' _ R3 ((Nx.mk' _ _ t).trans nx) this
  | _ => exact dd.elim
 ·rintro u s' ⟨_, e, rfl, hq⟩
  cases e
  exact ⟨rfl, hq⟩
noncomputable def s744 : Stmt := stAt 26 B01
noncomputable def f744 : FnE := ⟨756, 1, ["s"], [("comments", .bool false), ("posix", .bool true)], zAG s744, zAB s744, "split", .ref 755, []⟩
theorem zPi (P : Params) : FnOk (KK P) f744 := FnOk.of (by kernel_rfl) (by kernel_rfl) ⟨_, _, _, _, (by kernel_rfl : (KK P).lookup 756 = some (o744 P)), rfl, rfl, fun _ _ => rfl, rfl, rfl, fun s vs X h => by
 obtain ⟨a, rfl⟩ := len1 h
 exact binds_K (K := KK P) X rfl (by kernel_rfl : (KK P).lookup 749 = some (o737 P)) rfl (by rfl) (by kernel_rfl)⟩
noncomputable def aVal : Stmt → Expr
 | .Assign _ v _ => v
 | _ => default
noncomputable def rVal : Stmt → Expr
 | .Return (some v) _ => v
 | _ => default
noncomputable def cPos : Expr → Pos
 | .Call _ _ _ p => p
 | _ => default
noncomputable def shE : Expr := aVal (stAt 1 (zAG s744))
noncomputable def liE : Expr := rVal (stAt 4 (zAG s744))
noncomputable def shF (ns : List (Str × NameKind)) (st : St) (k : Kt) : Prop := zBM (lk "s" st.loc) fun x => onS x fun b => zBM (lk "posix" st.loc) fun y => onBo y (onNl st.led (ns = (zAB s744).names ∧ k (.v (.obj 0)) { loc := st.loc, led := zHK b }))
theorem zLY {ns : List (Str × NameKind)} {st : St} {k : Kt} (h : shF ns st k) : ∃ b, lk "s" st.loc = some (.str b) ∧ lk "posix" st.loc = some (.bool true) ∧ st.led = [] ∧ ns = (zAB s744).names ∧ k (.v (.obj 0)) { loc := st.loc, led := zHK b } := by
 unfold shF at h
 obtain ⟨x, hb, h⟩ := zAK h
 obtain ⟨b, rfl, h⟩ := zAi h
 obtain ⟨y, hp, h⟩ := zAK h
 obtain ⟨rfl, h⟩ := zLt h
 obtain ⟨hl, h⟩ := zHH h
 exact ⟨b, hb, hp, hl, h⟩
noncomputable def shHk : HkE Expr := ⟨(cPos shE).line, (cPos shE).col, 100, shE, shF⟩
noncomputable def liF (b : Str) (toks : List Str) (ns : List (Str × NameKind)) (st : St) (k : Kt) : Prop :=
 ns = (zAB s744).names ∧ lk "lex" st.loc = some (.obj 0) ∧ st.led = zAC (.str " ") (.str "") 1 b 0 [] ∧ LexAll b (.str " ") 1 0 toks ∧ toks.length ≤ sizeLine ∧ ∀ q i p, k (.v (.obj 4)) { loc := st.loc, led := zAC q (.str "") i b p [.list (toks.map .str)] }
noncomputable def liHk (b : Str) (toks : List Str) : HkE Expr := ⟨(cPos liE).line, (cPos liE).col, 160, liE, liF b toks⟩
theorem zTU : ∃ p1 p2 p3 p4 p5, shE = .Call (.Name "shlex" p1) [.Name "s" p2] [⟨some "posix", .Name "posix" p3, p4⟩] p5 := ⟨kp shE [0], kp shE [1], (kw0 shE).value.pos, (kw0 shE).pos, kp shE [], by kernel_rfl⟩
theorem zTh : ∃ p1 p2 p5, liE = .Call (.Name "list" p1) [.Name "lex" p2] [] p5 := ⟨kp liE [0], kp liE [1], kp liE [], by kernel_rfl⟩
noncomputable def g03 : List (Str × Value) := [("shlex", .ref 744), ("list", .type "list")]
theorem zSe (P : Params) : ∀ p ∈ g03, zCI (KK P) p := zAA ⟨by kernel_rfl, .inl (by kernel_rfl)⟩ <| zAA ⟨by kernel_rfl, .inr ⟨by kernel_rfl, by kernel_rfl, by kernel_rfl⟩⟩ zAD
noncomputable def cf3 (P : Params) : Cf where
 K := KK P
 globs := g03
 fns := []
 cls := []
theorem cok3 (w : World) : CfOk w (cf3 w.params) := ⟨zAD, zAD, zAn (zSe _), zAD, zAD, zAD⟩
section
variable {w : World} {C : Cf} {F : Fm} {ads : Wd} {s : Shared} {st : St} {E : Value → Shared → Prop}
theorem zGT {A : Around} {x : Str} {p : Pos} {sv : SV} {Q : Value → Shared → Prop} (ok : FmOk C F) (hk : zAb x F.sc.names = some .local) (hv : lk x st.loc = some sv) (hdb : Fast.sEq x "__debug__" = false)
  (R : Rep w F ads st s.heap) (q : ∀ u, Den F.B ads sv u → Q u s) : wpAny (model prog w) A (eval (.Name x p) F.env) Q E s := by
 rw [zAV] at hk
 obtain ⟨m, news, lw, u, X, a, b⟩ := zCo R hv
 exact ldE ok X.fr hk a (q u b) (by rw [zBX]; exact hdb)
theorem zKq {f : Expr} {args : List Expr} {kws : List Keyword} {pos : Pos} {env : Env} {A : Around} {M : Model} {Q : Value → Shared → Prop} (h : wpAny M A (eval f env) (fun f s₁ => wpAny M A (callWith pos f [] (backTo pos (starEach args env)) (backToKw pos (keywordEach kws env))) Q E s₁) E s)
  (he : eval (.Call f args kws pos) env = (do callWith pos (← eval f env) [] (backTo pos (starEach args env)) (backToKw pos (keywordEach kws env)))) :
  wpAny M A (eval (.Call f args kws pos) env) Q E s := by
 rw [he]; exact wpAny_bind h
theorem zQY (hK : C.K = KK w.params) (hC : C.known = true) : HxOk w C shHk := by
 intro F E ads st s k Q ok hd hu h R T
 obtain ⟨b, hb, hp, hl, hns, hk⟩ := zLY h
 obtain ⟨p1, p2, p3, p4, p5, e⟩ := zTU
 show wpAny (model prog w) F.A (eval shE F.env) (fun v s' => Q (.v v) s') E s
 rw [e]
 have ok3 : FmOk (cf3 w.params) F := zAY (by rw [hK]; rfl) ok (by first | exact fun _ => rfl | exact fun _ => by assumption | exact fun h => h)
 have d100 : shHk.d = 100 := rfl
 rw [d100] at hd hu
 have X : (KK w.params).In s.heap := zFL ok3 R
 refine zKq (zBP (cok3 w) ok3 (by rw [hns]; kernel_rfl) (by kernel_rfl : lk "shlex" g03 = some (.ref 744)) (by kernel_rfl) R ?_) (by rfl)
 refine callWith_KW (K := KK w.params) X (by kernel_rfl) rfl ?_
 refine spliced_more (zGT ok3 (by rw [hns]; kernel_rfl) hb (by kernel_rfl) R fun v dv => spliced_none ?_) rfl
 refine wpAny_evalAll_cons (wpAny_bind (zGT ok3 (by rw [hns]; kernel_rfl) hp (by kernel_rfl) R fun v2 d2 => wpAny_bind (wpAny_standAt (wpAny_pure (wpAny_evalAll_nil ⟨X, ?_⟩)))))
 cases d2
 refine wpAny_call ?_
 refine zOO hK hC ok (ok.stack hC) ok.hand (by show F.A.depth + 90 < _; lia) (by show F.A.units + 8 * 90 < _; lia) hl R dv fun more s' u R' nx du => ?_
 exact T (.v (.obj 0)) _ more (.v u) s' hk R' nx du
theorem zRA (hK : C.K = KK w.params) (hC : C.known = true) (b : Str) (toks : List Str) : HxOk w C (liHk b toks) := by
 intro F E ads st s k Q ok hd hu h R T
 obtain ⟨hns, hx, hl, hL, hlen, hk⟩ := h
 obtain ⟨p1, p2, p5, e⟩ := zTh
 show wpAny (model prog w) F.A (eval liE F.env) (fun v s' => Q (.v v) s') E s
 rw [e]
 have ok3 : FmOk (cf3 w.params) F := zAY (by rw [hK]; rfl) ok (by first | exact fun _ => rfl | exact fun _ => by assumption | exact fun h => h)
 have okK : FmOk (cfK w.params) F := zAY (by rw [hK]; rfl) ok (by first | exact fun _ => rfl | exact fun _ => by assumption | exact fun h => h)
 have d100 : (liHk b toks).d = 160 := rfl
 rw [d100] at hd hu
 refine Call_ (zBP (cok3 w) ok3 (by rw [hns]; kernel_rfl) (by kernel_rfl : lk "list" g03 = some (.type "list")) (by kernel_rfl) R ?_)
 refine zAS (fun a e => nomatch e) rfl (spliced_more (zGT ok3 (by rw [hns]; kernel_rfl) hx (by kernel_rfl) R fun v dv => spliced_none ?_) rfl)
 exact zOL okK (by lia) (by lia) hL hlen trivial R dv hl fun more s' u q' i' p' R' nx du => T (.v (.obj 4)) _ more (.v u) s' (hk q' i' p') R' nx du
end
noncomputable def cfY (P : Params) (b : Str) (toks : List Str) : Cf where
 K := KK P
 globs := g03
 fns := [f744]
 cls := [c597, c732]
 hxs := [shHk, liHk b toks]
theorem cokY (w : World) (b : Str) (toks : List Str) : CfOk w (cfY w.params b toks) where
 fns := zAA ⟨zPi _, by kernel_rfl, zAP (by kernel_rfl)⟩ <| zAD
 cls := zAA (zFq _) <| zAA (zHp _) <| zAD
 globs := zAn (zSe _)
 sps := zAD
 hxs := zAA (zQY rfl rfl) <| zAA (zRA rfl rfl b toks) <| zAD
 hss := zAD
theorem zNW (P : Params) (b : Str) (toks : List Str) (k : Kt) : ev (cfY P b toks) 200 (zAB s744).names (.sts (zAG s744)) { loc := [("s", .str b), ("comments", .bool false), ("posix", .bool true)], led := [] } k =
   (shE = shE ∧ (zAB s744).names = (zAB s744).names ∧ (liE = liE ∧ ((zAB s744).names = (zAB s744).names ∧ some (SV.obj 0) = some (.obj 0) ∧ zAC (.str " ") (.str "") 1 b 0 [] = zAC (.str " ") (.str "") 1 b 0 [] ∧ LexAll b (.str " ") 1 0 toks ∧ toks.length ≤ sizeLine ∧
     ∀ q i p, k (.ret (.obj 4)) { loc := [("s", .str b), ("comments", .bool false), ("posix", .bool true), ("lex", .obj 0)], led := zAC q (.str "") i b p [.list (toks.map .str)] }))) := by
  kernel_rfl
noncomputable def zPT (svs : List SV) (st : St) (k : Kt) : Prop := on1 svs fun x => onS x fun b => ∃ toks, LexAll b (.str " ") 1 0 toks ∧ toks.length ≤ sizeLine ∧ k (.v (.dat (.list (toks.map .str)))) st
noncomputable def splitSp : SpE := ⟨756, 1, 220, zPT⟩
theorem zHf {led : List SO} : ∀ (l : List Str), FrzL led (l.map .str) (l.map .str)
 | [] => .nil
 | a :: r => .cons (.str a) (zHf r)
theorem zNV {w : World} {C : Cf} (hK : C.K = KK w.params) (hC : C.known = true) : SpOk w C splitSp := by
 refine ⟨by rw [hK]; kernel_rfl, ?_⟩
 intro F A ads st s svs vs k Q Rr ok hA hh hd hu h R D hl T hR
 replace hA : true = true → A.frames = some F.stk := fun _ => hA hC
 have h' : ∃ b toks, svs = [.str b] ∧ LexAll b (.str " ") 1 0 toks ∧ toks.length ≤ sizeLine ∧ k (.v (.dat (.list (toks.map .str)))) st := by
  change zPT svs st k at h
  obtain ⟨x, rfl, h⟩ := zAc h
  obtain ⟨b, rfl, toks, a⟩ := zAi h
  exact ⟨_, toks, rfl, a⟩
 obtain ⟨b, toks, rfl, hL, hlen, hk⟩ := h'
 have okY : FmOk (cfY w.params b toks) F := zAY (by rw [hK]; rfl) ok (by first | exact fun _ => rfl | exact fun _ => by assumption | exact fun h => h)
 have d40 : splitSp.d = 220 := rfl
 rw [d40] at hd hu
 refine zBd (e := f744) (n := 200) (led₁ := []) (led₂ := st.led) (zBY (cokY w b toks) 200) (zPi _) okY hA hh (by lia) (by lia) R D hl rfl trivial (fun x hx => by rw [List.mem_singleton.mp hx]; exact trivial) List.nodup_nil ?_ T hR
 show ev (cfY w.params b toks) 200 (zAB s744).names (.sts (zAG s744)) { loc := [("s", .str b), ("comments", .bool false), ("posix", .bool true)], led := [] } _
 rw [zNW]
 refine ⟨rfl, rfl, rfl, rfl, rfl, rfl, hL, hlen, fun q i p => ⟨_, _, [], .inl rfl, .frz (d := .list (toks.map .str)) (.list (i := 4) (xs := toks.map .str) rfl (by simpa using hlen) (zHf toks)), .nil, hk⟩⟩
open PySem.Sre
noncomputable def cdQ : Array Nat := #[14, 17, 4, 1, 1, 21, 9, 0, 604043296, 1, 0, 0, 0, 0, 0, 8, 4, 0, 13, 14, 21, 9, 0, 604043296, 1, 0, 0, 0, 0, 0, 8, 4, 0, 1]
noncomputable def chQ : Array Nat := #[0, 604043296, 1, 0, 0, 0, 0, 0]
noncomputable def bad (c : Nat) : Bool := !((decide (c < 256) && (chQ.getD (c / 32) 0).testBit (c % 32)) || isWord c)
theorem zTL {c : Nat} (b : Nat) (hb : b = 6 ∨ b = 21) (h : c < 256) : cdQ.getD (b + (1 + c / 32)) 0 = chQ.getD (c / 32) 0 := by
 have key : ∀ d : Fin 8, cdQ.getD (6 + (1 + d.1)) 0 = chQ.getD d.1 0 ∧ cdQ.getD (21 + (1 + d.1)) 0 = chQ.getD d.1 0 := by decide +kernel
 have k := key ⟨c / 32, by lia⟩
 rcases hb with rfl | rfl
 ·exact k.1
 ·exact k.2
theorem zFi (c : Nat) (b : Nat) (hb : b = 6 ∨ b = 21) (seen : Sre.Seen) : ∃ seen', inSet cdQ c 33 b false seen = .ok (bad c, seen') := by
 have e1 : inSet cdQ c 33 b false seen = (if decide (c < 256) && (cdQ.getD (b + (1 + c / 32)) 0).testBit (c % 32) then .ok (false, seen.add 9) else inSet cdQ c 32 (b + 9) false (seen.add 9)) := by
  rcases hb with rfl | rfl <;> rfl
 have e2 : ∀ s2 : Sre.Seen, ∃ s3, inSet cdQ c 32 (b + 9) false s2 = .ok (!isWord c, s3) := by
  intro s2
  have e : inSet cdQ c 32 (b + 9) false s2 = (do if ← category 4 c then pure (false, (s2.add 8).add (55 + 4)) else inSet cdQ c 31 (b + 11) false ((s2.add 8).add (55 + 4))) := by
   rcases hb with rfl | rfl <;> rfl
  have ec : category 4 c = .ok (isWord c) := by
   show Except.ok (isWord c != (4 % 2 == 1)) = _
   cases isWord c <;> rfl
  rw [e, ec]
  cases isWord c with
  | true => exact ⟨_, rfl⟩
  | false =>
   refine ⟨((s2.add 8).add (55 + 4)).add 0, ?_⟩
   rcases hb with rfl | rfl <;> rfl
 rw [e1]
 unfold bad
 by_cases h : c < 256
 ·rw [zTL b hb h]
  cases q : (chQ.getD (c / 32) 0).testBit (c % 32) with
  | true => rw [decide_eq_true h]; exact ⟨_, rfl⟩
  | false =>
   rw [decide_eq_true h]
   obtain ⟨s3, e3⟩ := e2 (seen.add 9)
   exact ⟨s3, by simpa using e3⟩
 ·rw [decide_eq_false h]
  obtain ⟨s3, e3⟩ := e2 (seen.add 9)
  exact ⟨s3, by simpa using e3⟩
theorem zSb (c : Nat) (seen : Sre.Seen) : ∃ seen', inSet cdQ c cdQ.size 5 true seen = .ok (bad c, seen') := zFi c 6 (.inl rfl) (seen.add 21)
theorem zRQ (c : Nat) (seen : Sre.Seen) : ∃ seen', inSet cdQ c cdQ.size 20 true seen = .ok (bad c, seen') := zFi c 21 (.inr rfl) (seen.add 21)
theorem zIu (m : M) (hc : m.code = cdQ) : ∀ (fuel s : Nat) (seen : Sre.Seen), s ≤ m.lim → m.lim + 1 - s = fuel →
  ((∀ i, s ≤ i → i < m.lim → bad (m.text.getD i 0) = false) → ∃ seen', m.admitted fuel s seen = .ok (none, seen')) ∧
  ((∃ i, s ≤ i ∧ i < m.lim ∧ bad (m.text.getD i 0) = true) → ∃ i seen', i < m.lim ∧ bad (m.text.getD i 0) = true ∧ m.admitted fuel s seen = .ok (some i, seen')) := by
 intro fuel
 induction fuel with
 | zero => intro s seen h1 h2; omega
 | succ n ih =>
  intro s seen h1 h2
  by_cases hs : s ≥ m.lim
  ·have e : m.admitted (n + 1) s seen = .ok (none, seen) := by
    unfold M.admitted
    rw [if_pos hs]
   refine ⟨fun _ => ⟨seen, e⟩, fun ⟨i, a, b, _⟩ => by omega⟩
  ·obtain ⟨s2, e2⟩ := zSb (m.text.getD s 0) seen
   have e : m.admitted (n + 1) s seen = (match (Except.ok (bad (m.text.getD s 0), s2) : Except String (Bool × Sre.Seen)) with
    | .ok (true, seen) => .ok (some s, seen)
    | .ok (false, seen) => m.admitted n (s + 1) seen
    | .error why => .error why) := by
    rw [← e2, ← hc]
    conv => lhs; unfold M.admitted
    rw [if_neg hs]
    generalize inSet m.code (m.text.getD s 0) m.code.size 5 true seen = x
    rcases x with _ | ⟨_ | _, _⟩ <;> rfl
   rw [e]
   cases hb : bad (m.text.getD s 0) with
   | true =>
    refine ⟨fun h => ?_, fun _ => ⟨s, s2, by omega, hb, rfl⟩⟩
    have := h s (Nat.le_refl _) (by omega)
    rw [hb] at this; cases this
   | false =>
    obtain ⟨i1, i2⟩ := ih (s + 1) s2 (by omega) (by omega)
    refine ⟨fun h => i1 fun i a b => h i (by omega) b, fun ⟨i, a, b, c⟩ => i2 ⟨i, ?_, b, c⟩⟩
    rcases Nat.lt_or_ge s i with q | q
    ·exact q
    ·have : i = s := by omega
     subst this
     rw [hb] at c; cases c
theorem zRb (m : M) (hc : m.code = cdQ) (hpc : m.pc = 18) (hp : m.pos < m.lim) (hb : bad (m.text.getD m.pos 0) = true) : ∃ seen', m.exec = { m with seen := seen', pc := 33, pos := m.pos + 1 } := by
 obtain ⟨code, text, lim, start, lastStart, wholeText, mustAdvance, pc, pos, handed, outermost, marks, lastmark, lastindex, loops, inner, frames, weight, answer, seen, outcome⟩ := m
 dsimp only at hc hpc hp hb
 subst hc hpc
 obtain ⟨s2, e2⟩ := zRQ (text.getD pos 0) (seen.add 13)
 rw [hb] at e2
 refine ⟨s2, ?_⟩
 have ea : accepts cdQ 18 (text.getD pos 0) (seen.add 13) = .ok (true, s2) := e2
 have step : M.exec ⟨cdQ, text, lim, start, lastStart, wholeText, mustAdvance, 18, pos, handed, outermost, marks, lastmark, lastindex, loops, inner, frames, weight, answer, seen, outcome⟩ =
   (if pos ≥ lim then M.say ⟨cdQ, text, lim, start, lastStart, wholeText, mustAdvance, 18, pos, handed, outermost, marks, lastmark, lastindex, loops, inner, frames, weight, answer, seen.add 13, outcome⟩ false else
   match accepts cdQ 18 (text.getD pos 0) (seen.add 13) with
   | .error why => M.stick ⟨cdQ, text, lim, start, lastStart, wholeText, mustAdvance, 18, pos, handed, outermost, marks, lastmark, lastindex, loops, inner, frames, weight, answer, seen.add 13, outcome⟩ why
   | .ok (false, seen) => M.say ⟨cdQ, text, lim, start, lastStart, wholeText, mustAdvance, 18, pos, handed, outermost, marks, lastmark, lastindex, loops, inner, frames, weight, answer, seen, outcome⟩ false
   | .ok (true, seen) => ⟨cdQ, text, lim, start, lastStart, wholeText, mustAdvance, 33, pos + 1, handed, outermost, marks, lastmark, lastindex, loops, inner, frames, weight, answer, seen, outcome⟩) := by
  rfl
 rw [step, if_neg (by omega), ea]
noncomputable def zGN (s : Nat) : Sre.Frame := { wait := .nextStart, pc := 18, pos := s, outermost := true }
theorem zLe (m : M) (hc : m.code = cdQ) (hpc : m.pc = 18) (ho : m.outermost = true) (hw : m.wholeText = false) (ha : m.mustAdvance = false) (hf : m.frames = [zGN m.pos]) (hn : m.answer = none) (hoc : m.outcome = none) (hp : m.pos < m.lim) (hb : bad (m.text.getD m.pos 0) = true) :
  (m.runFor 4).outcome = some .matched := by
 obtain ⟨s2, e⟩ := zRb m hc hpc hp hb
 obtain ⟨code, text, lim, start, lastStart, wholeText, mustAdvance, pc, pos, handed, outermost, marks, lastmark, lastindex, loops, inner, frames, weight, answer, seen, outcome⟩ := m
 dsimp only at hc hpc ho hw ha hf hn hoc hp hb e
 subst hc hpc ho hw ha hf hn hoc
 have e1 : M.step ⟨cdQ, text, lim, start, lastStart, false, false, 18, pos, handed, true, marks, lastmark, lastindex, loops, inner, [zGN pos], weight, none, seen, none⟩ = M.exec ⟨cdQ, text, lim, start, lastStart, false, false, 18, pos, handed, true, marks, lastmark, lastindex, loops, inner, [zGN pos], weight, none, seen, none⟩ := rfl
 show (M.runFor 3 (M.step _)).outcome = _
 rw [e1, e]
 rfl
theorem zNs (m : M) (b : Bool) (ha : m.answer = some b) (hf : m.frames = []) (hoc : m.outcome = none) : (m.runFor 4).outcome = some (if b then .matched else .failed) := by
 obtain ⟨code, text, lim, start, lastStart, wholeText, mustAdvance, pc, pos, handed, outermost, marks, lastmark, lastindex, loops, inner, frames, weight, answer, seen, outcome⟩ := m
 dsimp only at ha hf hoc
 subst ha hf hoc
 rfl
noncomputable def zFE (t : Array Nat) : Prop := ∃ i, i < t.size ∧ bad (t.getD i 0) = true
theorem zLa (t : Array Nat) (hn : t.size ≠ 0) : ((∀ i, i < t.size → bad (t.getD i 0) = false) → ((forSearch cdQ t 0 0 t.size false).runFor 4).outcome = some .failed) ∧
  (zFE t → ((forSearch cdQ t 0 0 t.size false).runFor 4).outcome = some .matched) := by
 let m0 : M := { code := cdQ, text := t, lim := t.size, start := 0, pc := 18, pos := 0, handed := 0, marks := Array.replicate (2 * 0) none, mustAdvance := false, seen := ({} : Sre.Seen).add 14, lastStart := t.size }
 have e : forSearch cdQ t 0 0 t.size false = m0.attemptFrom 0 true := by
  have : ¬ ((decide (0 > t.size) || decide (t.size - 0 < 1)) = true) := by
   rw [decide_eq_false (by lia), decide_eq_false (by lia)]; decide
  show (if (decide (0 > t.size) || decide (t.size - 0 < 1)) = true then M.say { m0 with lastStart := 0 } false else m0.attemptFrom 0 true) = _
  rw [if_neg this]
 have e2 : m0.attemptFrom 0 true = (match M.admitted m0 (t.size + 1 - 0) 0 m0.seen with
  | .ok (some s, seen) => { m0 with mustAdvance := false, seen }.attemptAt s true
  | .ok (none, seen) => { m0 with seen }.say false
  | .error why => m0.stick why) := rfl
 obtain ⟨a1, a2⟩ := zIu m0 rfl (t.size + 1 - 0) 0 m0.seen (Nat.zero_le _) rfl
 rw [e, e2]
 constructor
 ·intro h
  obtain ⟨s2, q⟩ := a1 fun i _ hi => h i hi
  rw [q]
  exact zNs _ false rfl rfl rfl
 ·rintro ⟨i, hi, hb⟩
  obtain ⟨s, s2, hs, hb', q⟩ := a2 ⟨i, Nat.zero_le _, hi, hb⟩
  rw [q]
  exact zLe _ rfl rfl rfl rfl rfl rfl rfl rfl hs hb'
open PySem.Builtin.Re
theorem zHj : entryFor table "re.Pattern.search" = some Builtin.«re.Pattern.search» := entryFor_of_tree (by kernel_rfl)
section
variable {w : World} {h : Heap}
theorem zLc (X : (KK w.params).In h) (b : Str) (t : Tok) : Looks (model prog w) h (reTarget "re.Pattern.search" "search" ⟨[.ref 61, .str b t], []⟩)
  { pattern := .ref 61, string := .str b t, code := cdQ, text := b.cps, kind := 0, groups := 0, pos := min (0 : Int).toNat b.cps.size, lim := min (2 ^ 63 - 1 : Int).toNat b.cps.size } := Looks.of_peek X (by kernel_rfl)
theorem zNr (X : (KK w.params).In h) (b : Str) (t : Tok) : Looks (model prog w) h (checkBoundCall "re.Pattern.search" ⟨[.ref 61, .str b t], []⟩) () := Looks.of_peek X (by kernel_rfl)
end
theorem wpAny_noted {M : Model} {A : Around} {E : Value → Shared → Prop} {s : Shared} {p : Nat → Bool} {f : Nat → String} {Q : Unit → Shared → Prop} : ∀ (l : List Nat), Q () s →
  wpAny M A (forIn l () fun i _ => (if p i = true then rule (f i) >>= fun _ => pure (ForInStep.yield ()) else pure (ForInStep.yield ())) : Sem Unit) Q E s
 | [], q => wpAny_pure q
 | a :: r, q => by
  rw [List.forIn_cons]
  refine wpAny_bind ?_
  split
  ·exact wpAny_bind (wpAny_rule (wpAny_pure (wpAny_noted r q)))
  ·exact wpAny_pure (wpAny_noted r q)
theorem zKj {M : Model} {A : Around} {E : Value → Shared → Prop} {s : Shared} {m : Sre.M} {Q : Sre.M → Shared → Prop} {n : Nat} (h : (m.runFor 4).outcome.isSome = true) (q : Q (m.runFor 4) s) : wpAny M A (reDrive (n + 1) m) Q E s := by
 show wpAny M A (if (m.runFor 4).outcome.isSome = true then pure (m.runFor 4) else rule "sre.turn" >>= fun _ => reDrive n (m.runFor 4)) Q E s
 rw [if_pos h]
 exact wpAny_pure q
theorem zPM {M : Model} {A : Around} {E : Value → Shared → Prop} {s : Shared} {m : Sre.M} {Q : Option Sre.M → Shared → Prop} (b : Bool) (h : (m.runFor 4).outcome = some (if b then .matched else .failed)) (q : Q (if b then some (m.runFor 4) else none) s) : wpAny M A (reRunToEnd m) Q E s := by
 unfold reRunToEnd
 have e : (2 ^ 64 : Nat) = 18446744073709551615 + 1 := by rfl
 rw [e]
 refine wpAny_bind (zKj (by rw [h]; rfl) ?_)
 refine wpAny_bind ?_
 refine wpAny_noted (p := fun i => (Sre.M.runFor 4 m).seen.has i) (f := fun i => Sre.names.getD i "") _ ?_
 rw [h]
 cases b <;> exact wpAny_pure q
theorem zLd {M : Model} {A : Around} {E : Value → Shared → Prop} {s : Shared} {m : Sre.M} {p v : Value} {lo hi : Nat} {Q : Value → Shared → Prop} (q : ∀ o1 o2, Q (.ref (s.heap.objs.size + 1)) { s with heap := (s.heap.push o1).push o2 }) :
  wpAny M A (reNewMatch p v 0 lo hi m) Q E s := by
 show wpAny M A (newTuple (rawInt m.start :: rawInt m.handed :: []) >>= fun tp => newFields "re.Match" [v, p, rawInt lo, rawInt hi, rawInt m.lastindex, tp]) Q E s
 refine wpAny_bind (wpAny_newTuple ?_ (by show 2 ≤ sizeLine; decide))
 unfold newFields
 refine wpAny_newObj_type ?_
 have := q { cls := .type "tuple", data := .seq #[rawInt m.start, rawInt m.handed] } { cls := .type "re.Match", dict := none, data := .fields #[v, p, rawInt lo, rawInt hi, rawInt m.lastindex, .ref s.heap.objs.size] }
 simpa [Heap.size_push] using this
theorem zQj {w : World} {A : Around} {Rr : Result → Shared → Prop} {s : Shared} {b : Str} {t : Tok} (X : (KK w.params).In s.heap) (hl : b.length ≤ sizeLine) (hn : b.length ≠ 0)
  (h0 : (∀ i, i < b.cps.size → bad (b.cps.getD i 0) = false) → Rr (.ok (.ret .none)) s)
  (h1 : zFE b.cps → ∀ o1 o2, Rr (.ok (.ret (.ref (s.heap.objs.size + 1)))) { s with heap := (s.heap.push o1).push o2 }) :
  codeAny (model prog w) A (.call (.ref 764) ⟨[.str b t], []⟩) Rr s := by
 have hC := X _ _ (by kernel_rfl : (KK w.params).lookup 764 = some (o752 w.params))
 have ck := zNr X b t
 have tg := zLc X b t
 obtain ⟨hh, g, d, tt, os⟩ := s
 dsimp only at hC ck tg
 refine codeAny_of_tree ?_
 show wpAny _ _ (callAny (.ref 764) _) _ _ _
 refine nd_load hC ?_
 show wpAny _ _ (checkBoundCall "re.Pattern.search" ⟨[.ref 61, .str b t], []⟩ >>= fun _ => again (.builtin "re.Pattern.search" ⟨[.ref 61, .str b t], []⟩)) _ _ _
 refine wpAny_bind (ck.at ?_)
 refine wpAny_pure (a := Fin.again (.builtin "re.Pattern.search" ⟨[.ref 61, .str b t], []⟩)) (And.intro (Code.quiet_builtin _ (by decide +kernel)) ?_)
 refine codeAny_builtin zHj ?_
 unfold Builtin.«re.Pattern.search»
 have e1 : min (0 : Int).toNat b.cps.size = 0 := Nat.zero_min _
 have e2 : min (2 ^ 63 - 1 : Int).toNat b.cps.size = b.cps.size := by
  have : b.cps.size ≤ sizeLine := hl
  rw [sizeLine_eq] at this
  have e : ((2 : Int) ^ 63 - 1).toNat = 9223372036854775807 := by rfl
  rw [e]; lia
 rw [e1, e2] at tg
 refine wpAny_bind (tg.at ?_)
 unfold reAnswer
 obtain ⟨s1, s2⟩ := zLa b.cps hn
 by_cases hb : zFE b.cps
 ·refine wpAny_bind (zPM true (s2 hb) ?_)
  exact wpAny_bind (zLd fun o1 o2 => wpAny_pure (h1 hb o1 o2))
 ·have hs : ∀ i, i < b.cps.size → bad (b.cps.getD i 0) = false := fun i hi => by
   cases q : bad (b.cps.getD i 0) with
   | false => rfl
   | true => exact absurd ⟨i, hi, q⟩ hb
  refine wpAny_bind (zPM false (s1 hs) ?_)
  exact wpAny_pure (h0 hs)
noncomputable def repL (c : Nat) (z : List Nat) (l : List Nat) : List Nat := l.flatMap fun k => if k = c then z else [k]
theorem zES (c : Nat) (z a b : List Nat) : repL c z (a ++ b) = repL c z a ++ repL c z b := List.flatMap_append
theorem zER (c : Nat) (z : List Nat) : ∀ l : List Nat, c ∉ l → repL c z l = l
 | [], _ => rfl
 | k :: r, h => by
  have h1 : k ≠ c := fun e => h (e ▸ .head _)
  show (if k = c then z else [k]) ++ repL c z r = _
  rw [if_neg h1, zER c z r fun q => h (.tail _ q)]
  rfl
theorem zNy (c : Nat) (z : List Nat) : repL c z [c] = z := by simp [repL]
theorem zHE (c : Nat) (z : Str) : ∀ parts : List Str, (∀ p ∈ parts, c ∉ p.cps.toList) → repL c z.cps.toList (Str.join ⟨#[c]⟩ parts).cps.toList = (Str.join z parts).cps.toList
 | [], _ => rfl
 | [p], h => zER c _ _ (h p (List.mem_singleton.mpr rfl))
 | p :: q :: r, h => by
  have ih := zHE c z (q :: r) fun a ha => h a (List.mem_cons_of_mem _ ha)
  show repL c z.cps.toList (p ++ ⟨#[c]⟩ ++ Str.join ⟨#[c]⟩ (q :: r)).cps.toList = (p ++ z ++ Str.join z (q :: r)).cps.toList
  simp only [Str.cps_append, Array.toList_append]
  rw [zES, zES, ih, zER c _ _ (h p (List.mem_cons_self ..))]
  show p.cps.toList ++ repL c z.cps.toList [c] ++ _ = _
  rw [zNy]
theorem zHA (x z : Str) (c : Nat) : (Txt.replace x ⟨#[c]⟩ z).cps.toList = repL c z.cps.toList x.cps.toList := by
 rw [StrLaws.replace_one, ← zHE c z _ (StrLaws.split_free x c), StrLaws.join_split]
theorem zGK (c : Nat) (z : List Nat) (n : Nat) (hz : z.length ≤ n) (h1 : 1 ≤ n) : ∀ l : List Nat, (repL c z l).length ≤ n * l.length
 | [] => Nat.zero_le _
 | k :: r => by
  have ih := zGK c z n hz h1 r
  show ((if k = c then z else [k]) ++ repL c z r).length ≤ n * (r.length + 1)
  rw [List.length_append, Nat.mul_add]
  have : (if k = c then z else [k]).length ≤ n := by
   split
   ·exact hz
   ·exact h1
  lia
theorem zDY {s : Str} {l : List Nat} (h : s.cps.toList = l) : s = tx l := by subst h; cases s; simp [tx]
noncomputable def qm : List Nat := [39, 34, 39, 34, 39]
noncomputable def zAt (l : List Nat) : List Nat := if l ≠ [] ∧ l.all (fun c => !bad c) = true then l else 39 :: (repL 39 qm l ++ [39])
noncomputable def s759 : Stmt := stAt 30 B01
noncomputable def f759 : FnE := ⟨771, 1, ["s"], [], zAG s759, zAB s759, "quote", .ref 770, []⟩
theorem zSn (P : Params) : FnOk (KK P) f759 := FnOk.of (by kernel_rfl) (by kernel_rfl) ⟨_, _, _, _, (by kernel_rfl : (KK P).lookup 771 = some (o759 P)), rfl, rfl, fun _ _ => rfl, rfl, rfl, fun s vs X h => by
 obtain ⟨a, rfl⟩ := len1 h
 exact BindsTo.of_eq (by kernel_rfl)⟩
noncomputable def cmpL : Expr → Expr
 | .Compare l _ _ _ => l
 | _ => default
noncomputable def rPos : Stmt → Pos
 | .Return _ p => p
 | _ => default
noncomputable def fuE : Expr := cmpL (zEk (stAt 1 (zAG s759)))
noncomputable def qrS : Stmt := stAt 2 (zAG s759)
noncomputable def fuF (ns : List (Str × NameKind)) (st : St) (k : Kt) : Prop := zBM (lk "s" st.loc) fun x => onS x fun b => ns = (zAB s759).names ∧ b.length ≠ 0 ∧ ((∀ i, i < b.cps.size → bad (b.cps.getD i 0) = false) → k (.v .none) st) ∧ (zFE b.cps → k (.v (.obj st.led.length)) { st with led := st.led ++ [.gone] })
noncomputable def fuHk : HkE Expr := ⟨(cPos fuE).line, (cPos fuE).col, 20, fuE, fuF⟩
noncomputable def qrF (ns : List (Str × NameKind)) (st : St) (k : Kt) : Prop := zBM (lk "s" st.loc) fun x => onS x fun b => ns = (zAB s759).names ∧ b.length ≤ 1000000 ∧ k (.ret (.str (tx (39 :: (repL 39 qm b.cps.toList ++ [39]))))) st
noncomputable def qrHk : HkE Stmt := ⟨(rPos qrS).line, (rPos qrS).col, 20, qrS, qrF⟩
theorem zTu : ∃ p1 p2 p5, fuE = .Call (.Name "_find_unsafe" p1) [.Name "s" p2] [] p5 := ⟨kp fuE [0], kp fuE [1], kp fuE [], by kernel_rfl⟩
theorem zTZ : ∃ p1 p2 p3 p4 p5 p6 p7 p8 p9 p10 n1 n2 n3 n4, qrS = .Return (some (.BinOp (.BinOp (.Constant (.str "'") n1 p1) .Add (.Call (.Attribute (.Name "s" p2) "replace" p3) [.Constant (.str "'") n2 p4, .Constant (.str "'\"'\"'") n3 p5] [] p6) p7) .Add (.Constant (.str "'") n4 p8) p9)) p10 ∧ (p3.endLine == p6.line) = true :=
 let e := sEx qrS
 ⟨kp e [0, 0], kp e [0, 1, 0, 0], kp e [0, 1, 0], kp e [0, 1, 1], kp e [0, 1, 2], kp e [0, 1], kp e [0], kp e [1], kp e [], qrS.pos, kK e [0, 0], kK e [0, 1, 1], kK e [0, 1, 2], kK e [1], by kernel_rfl, by kernel_rfl⟩
noncomputable def g04 : List (Str × Value) := [("_find_unsafe", .ref 764)]
theorem zTs (P : Params) : ∀ p ∈ g04, zCI (KK P) p := zAA ⟨by kernel_rfl, .inl (by kernel_rfl)⟩ zAD
noncomputable def cf4 (P : Params) (kn : Bool) : Cf where
 K := KK P
 globs := g04
 fns := []
 cls := []
 known := kn
theorem cok4 (w : World) (kn : Bool) : CfOk w (cf4 w.params kn) := ⟨zAD, zAD, zAn (zTs _), zAD, zAD, zAD⟩
theorem zOb {M : Model} (P : Params) (h : Heap) (X : (KK P).In h) : ∃ k, (k = Keeper.frame ∨ k = Keeper.machine ∨ k = Keeper.boundFrame) ∧ Looks M h (keeperOf (.ref 764)) k := by
 refine ⟨.machine, .inr (.inl rfl), (Looks.ld (part := none) (X _ _ (by kernel_rfl : (KK P).lookup 764 = some (o752 P)))).andThen ?_⟩
 exact .now
section
variable {w : World} {C : Cf} {F : Fm} {ads : Wd} {s : Shared} {st : St} {E : Value → Shared → Prop}
theorem zNu {h : Heap} (a : Addr) (R : Rep w F ads st h) : Rep w F (wa ads (.one a 0)) { st with led := st.led ++ [.gone] } h := by
 obtain ⟨m, news, lw, X⟩ := R
 have efz : (wa ads (Wd.one a 0)).fz = ads.fz := by rw [Wd.fz_append]; exact List.append_nil _
 refine ⟨m, news, lw, X.fr, fun p hp => X.nw p (by rw [efz] at hp; exact hp), X.loc.mono, ?_, by rw [efz]; exact X.nd, X.ups⟩
 have z := (X.led.mono (more := .one a 0)).append (LedR.cons (One.gone (a := a) (d := 0)) LedR.nil)
 rw [List.append_nil, List.append_nil] at z
 exact z
theorem zRX (hK : C.K = KK w.params) : HxOk w C fuHk := by
 intro F E ads st s k Q ok hd hu h R T
 obtain ⟨b, hb, hns, hn, h0, h1⟩ : ∃ b, lk "s" st.loc = some (.str b) ∧ F.sc.names = (zAB s759).names ∧ b.length ≠ 0 ∧ ((∀ i, i < b.cps.size → bad (b.cps.getD i 0) = false) → k (.v .none) st) ∧ (zFE b.cps → k (.v (.obj st.led.length)) { st with led := st.led ++ [.gone] }) := by
  change fuF _ st k at h
  unfold fuF at h
  obtain ⟨x, hb, h⟩ := zAK h
  obtain ⟨b, rfl, h⟩ := zAi h
  exact ⟨b, hb, h⟩
 obtain ⟨p1, p2, p5, e⟩ := zTu
 show wpAny (model prog w) F.A (eval fuE F.env) (fun v s' => Q (.v v) s') E s
 rw [e]
 have ok4 : FmOk (cf4 w.params C.known) F := zAY (by rw [hK]; rfl) ok fun h => h
 have X : (KK w.params).In s.heap := zFL ok4 R
 refine Call_ (zBP (cok4 w C.known) ok4 (by rw [hns]; kernel_rfl) (by kernel_rfl : lk "_find_unsafe" g04 = some (.ref 764)) (by kernel_rfl) R ?_)
 refine callWith_of (P := fun h => (KK w.params).In h) rfl (fun h X => zOb w.params h X) (zCd (es := [.Name "s" p2]) rfl ?_)
 refine spliced_more (zGT ok4 (by rw [hns]; kernel_rfl) hb (by kernel_rfl) R fun v dv => spliced_none ?_) rfl
 obtain ⟨⟨t, rfl⟩, hl⟩ := dv
 refine ⟨X, wpAny_call (zQj X hl hn (fun hs => ?_) fun hs o1 o2 => ?_)⟩
 ·exact T (.v .none) _ ⟨[], []⟩ (.v .none) s (h0 hs) (by rw [show (wa ads (⟨[], []⟩ : Wd)) = ads from Wd.append_nil ads]; exact R) (Nx.refl s) rfl
 ·have R2 := zNu (s.heap.objs.size + 1) (zJM o2 (zJM o1 R))
  refine T (.v (.obj st.led.length)) _ _ (.v _) _ (h1 hs) R2 (Nx.mk' s _ s.toks) ⟨(s.heap.objs.size + 1, 0), ?_, rfl⟩
  have := zBz ads (s.heap.objs.size + 1) 0
  rw [← zBI R] at this; exact this
theorem zQn (hK : C.K = KK w.params) : HsOk w C qrHk := by
 intro F E ads st s k Q ok hd hu h R T
 obtain ⟨b, hb, hns, hn, hk⟩ : ∃ b, lk "s" st.loc = some (.str b) ∧ F.sc.names = (zAB s759).names ∧ b.length ≤ 1000000 ∧ k (.ret (.str (tx (39 :: (repL 39 qm b.cps.toList ++ [39]))))) st := by
  change qrF _ st k at h
  unfold qrF at h
  obtain ⟨x, hb, h⟩ := zAK h
  obtain ⟨b, rfl, h⟩ := zAi h
  exact ⟨b, hb, h⟩
 obtain ⟨p1, p2, p3, p4, p5, p6, p7, p8, p9, p10, n1, n2, n3, n4, e, hp⟩ := zTZ
 show wpAny (model prog w) F.A (exec qrS F.env) (fun f s' => Q (.fl f) s') E s
 rw [e]
 have R1 : ∀ t, Rep w F ads st ({ s with toks := t } : Shared).heap := fun t => R
 refine wpAny_Return_some (wpAny_BinOp (wpAny_BinOp (wpAny_Constant_str ?_)))
 refine MethodCall_ (zGT (s := { s with toks := s.toks + 1 }) ok (by rw [hns]; kernel_rfl) hb (by kernel_rfl) R fun v dv => ?_) (zDy (by unfold mcOk; rw [hp]; rfl))
 obtain ⟨⟨t, rfl⟩, hl⟩ := dv
 refine GM.replace ?_
 refine zAS (fun a e => nomatch e) rfl (spliced_more (wpAny_Constant_str (spliced_more (wpAny_Constant_str (spliced_none ?_)) rfl)) rfl)
 have e1 : (("'" : Str)) = ⟨#[39]⟩ := by rfl
 have e2 : (("'\"'\"'" : Str)).cps.toList = qm := by rfl
 refine SC.replaceW (by simp) (by simp) (by simp) (by decide +kernel) (by show b.length ≤ 1048576; lia) (by decide +kernel) fun t' kk => ?_
 have hr : Txt.replace b "'" "'\"'\"'" = tx (repL 39 qm b.cps.toList) := by
  have q := zHA b "'\"'\"'" 39
  rw [e2] at q
  rw [e1]
  exact zDY q
 rw [hr]
 have hL : (repL 39 qm b.cps.toList).length ≤ 5000000 := by
  have := zGK 39 qm 5 (by decide) (by decide) b.cps.toList
  have hb' : b.cps.toList.length = b.length := by simp [Str.length]
  lia
 have hl2 : (tx (repL 39 qm b.cps.toList)).length ≤ sizeLine := by rw [zAF, sizeLine_eq]; lia
 have d1 : ∀ t, Den F.B ads (.str "'") (.str "'" t) := fun t => ⟨⟨t, rfl⟩, by decide +kernel⟩
 refine zFG (B := F.B) (ads := ads) (x := .str "'") (y := .str (tx (repL 39 qm b.cps.toList))) (k := fun z => z = .str (tx (39 :: repL 39 qm b.cps.toList))) (d1 _) ⟨⟨t', rfl⟩, hl2⟩ ?_ fun r v t2 hr dv => ?_
 ·show ("'" : Str).length + (tx (repL 39 qm b.cps.toList)).length ≤ sizeLine ∧ SV.str ("'" ++ tx (repL 39 qm b.cps.toList)) = _
  refine ⟨?_, ?_⟩
  ·rw [zAF, sizeLine_eq]
   have : ("'" : Str).length = 1 := by rfl
   lia
  ·have : ("'" : Str) = tx [39] := by rfl
   rw [this, zAL]; rfl
 subst hr
 refine wpAny_Constant_str (zFG (B := F.B) (ads := ads) (x := .str (tx (39 :: repL 39 qm b.cps.toList))) (y := .str "'") (k := fun z => z = .str (tx (39 :: (repL 39 qm b.cps.toList ++ [39])))) dv (d1 _) ?_ fun r v t3 hr dv => ?_)
 ·show (tx (39 :: repL 39 qm b.cps.toList)).length + ("'" : Str).length ≤ sizeLine ∧ SV.str (tx (39 :: repL 39 qm b.cps.toList) ++ "'") = _
  refine ⟨?_, ?_⟩
  ·rw [zAF, sizeLine_eq]
   have : ("'" : Str).length = 1 := by rfl
   rw [List.length_cons]
   lia
  ·have : ("'" : Str) = tx [39] := by rfl
   rw [this, zAL]; rfl
 subst hr
 have ea : (wa ads (⟨[], []⟩ : Wd)) = ads := Wd.append_nil ads
 have dv' : DenR F.B (wa ads (⟨[], []⟩ : Wd)) (.ret (.str (tx (39 :: (repL 39 qm b.cps.toList ++ [39]))))) (.fl (.ret v)) := by rw [ea]; exact dv
 exact T (.ret _) _ ⟨[], []⟩ (.fl (.ret v)) _ hk (by rw [ea]; exact R) (zAa s _) dv'
end
noncomputable def cfQ (P : Params) (kn : Bool) : Cf where
 K := KK P
 globs := []
 fns := []
 cls := []
 known := kn
 hxs := [fuHk]
 hss := [qrHk]
theorem cokQ (w : World) (kn : Bool) : CfOk w (cfQ w.params kn) where
 fns := zAD
 cls := zAD
 globs := fun x v h => nomatch h
 sps := zAD
 hxs := zAA (zRX rfl) <| zAD
 hss := zAA (zQn rfl) <| zAD
theorem zOC (P : Params) (kn : Bool) (b : Str) (k : Kt) : ev (cfQ P kn) 40 (zAB s759).names (.sts (zAG s759)) { loc := [("s", .str b)], led := [] } k =
   ifT (!((b.length : Int) != 0)) (k (.ret (.str "''")) { loc := [("s", .str b)], led := [] })
    (fuE = fuE ∧ (zAB s759).names = (zAB s759).names ∧ b.length ≠ 0 ∧ ((∀ i, i < b.cps.size → bad (b.cps.getD i 0) = false) → k (.ret (.str b)) { loc := [("s", .str b)], led := [] }) ∧
      (zFE b.cps → (qrS = qrS ∧ (zAB s759).names = (zAB s759).names ∧ b.length ≤ 1000000 ∧ k (.ret (.str (tx (39 :: (repL 39 qm b.cps.toList ++ [39]))))) { loc := [("s", .str b)], led := [.gone] }))) := by
  kernel_rfl
theorem zKv {b : Str} (hn : b.length ≠ 0) (h : ∀ i, i < b.cps.size → bad (b.cps.getD i 0) = false) : tx (zAt b.cps.toList) = b := by
 have e : zAt b.cps.toList = b.cps.toList := by
  unfold zAt
  rw [if_pos]
  refine ⟨fun e => hn (by (have h0 : b.cps.size = b.cps.toList.length := (by simp)); rw [e] at h0; exact h0), List.all_eq_true.mpr fun c hc => ?_⟩
  obtain ⟨i, hi, rfl⟩ := List.mem_iff_getElem.mp hc
  have hi' : i < b.cps.size := by simpa using hi
  have := h i hi'
  simp [Array.getD, hi'] at this
  simpa using this
 rw [e]
 exact (zDY rfl).symm
theorem zNO {b : Str} (h : zFE b.cps) : zAt b.cps.toList = 39 :: (repL 39 qm b.cps.toList ++ [39]) := by
 unfold zAt
 rw [if_neg]
 rintro ⟨_, h2⟩
 obtain ⟨i, hi, hb⟩ := h
 have := List.all_eq_true.mp h2 (b.cps.toList[i]'(by simpa using hi)) (List.getElem_mem _)
 simp [Array.getD, hi] at hb
 simp [hb] at this
noncomputable def s771 : Stmt := stAt 5 B01
noncomputable def f771 : FnE := ⟨56, 1, ["s"], [], zAG s771, zAB s771, "parse_http_list", .ref 55, []⟩
theorem zSm (P : Params) : FnOk (KK P) f771 := FnOk.of (by kernel_rfl) (by kernel_rfl) ⟨_, _, _, _, (by kernel_rfl : (KK P).lookup 56 = some (o771 P)), rfl, rfl, fun _ _ => rfl, rfl, rfl, fun s vs X h => by
 obtain ⟨a, rfl⟩ := len1 h
 exact BindsTo.of_eq (by kernel_rfl)⟩
noncomputable def zAs : Stmt → Expr
 | .For a _ _ _ _ => a
 | _ => default
noncomputable def zAT : Stmt → List Stmt
 | .For _ _ b _ _ => b
 | _ => []
noncomputable def zDN : List (Str × NameKind) := (zAB s771).names
noncomputable def zGb : Stmt := stAt 3 (zAG s771)
noncomputable abbrev cfH (P : Params) : Cf where
 K := KK P
 globs := []
 fns := []
 cls := []
theorem cokH (w : World) : CfOk w (cfH w.params) := ⟨zAD, zAD, (fun x v h => nomatch h), zAD, zAD, zAD⟩
noncomputable def zDH (f : St → Kt → Prop) (k : Kt) : Kt := fun r st₁ => match r with
 | .next => f st₁ k
 | .brk => k .brk st₁
 | .cont => k .cont st₁
 | .ret x => k (.ret x) st₁
 | _ => False
noncomputable abbrev hst (b part : Str) (e q : Bool) (l : List SO) : St := { loc := [("s", .str b), ("res", .obj 0), ("part", .str part), ("escape", .bool e), ("quote", .bool q)], led := l }
noncomputable abbrev hstc (b part : Str) (e q : Bool) (c : Str) (l : List SO) : St := { loc := [("s", .str b), ("res", .obj 0), ("part", .str part), ("escape", .bool e), ("quote", .bool q), ("cur", .str c)], led := l }
theorem zMg (P : Params) (b : Str) (k : Kt) : ev (cfH P) 40 zDN (.sts (zAG s771)) { loc := [("s", .str b)], led := [] } k =
   forE (zAN zDN (zAs zGb)) (fun st k => ev (cfH P) 35 zDN (.sts (zAT zGb)) st k) (.str b) (b.cps.toList.map fun c => .str (sgS c)) (.it true (.str b)) 1 0 (b.cps.toList.map fun c => .str (sgS c))
     (hst b "" false false [.list [], .it true (.str b) 0]) (zDH (fun st k => ev (cfH P) 36 zDN (.sts ((zAG s771).drop 4)) st k) k) := by
  kernel_rfl
theorem zMc (P : Params) (b part : Str) (e q : Bool) (c : Str) (j : Nat) (xs : List SV) (k : Kt) :
   zAN zDN (zAs zGb) (.str c) (hst b part e q [.list xs, .it true (.str b) j]) (fun st₁ => ev (cfH P) 35 zDN (.sts (zAT zGb)) st₁ k) =
    ifT e (part.length + c.length ≤ sizeLine ∧ k .cont (hstc b (part ++ c) false q c [.list xs, .it true (.str b) j]))
    (ifT q (ifT (Fast.sEq c "\\") (k .cont (hstc b part true q c [.list xs, .it true (.str b) j]))
        (ifT (Fast.sEq c "\"") (part.length + c.length ≤ sizeLine ∧ k .cont (hstc b (part ++ c) e false c [.list xs, .it true (.str b) j]))
          (part.length + c.length ≤ sizeLine ∧ k .cont (hstc b (part ++ c) e q c [.list xs, .it true (.str b) j]))))
      (ifT (Fast.sEq c ",") (xs.length ≤ sizeLine ∧ k .cont (hstc b "" e q c [.list (xs ++ [.str part]), .it true (.str b) j]))
        (ifT (Fast.sEq c "\"") (part.length + c.length ≤ sizeLine ∧ k .next (hstc b (part ++ c) e true c [.list xs, .it true (.str b) j]))
          (part.length + c.length ≤ sizeLine ∧ k .next (hstc b (part ++ c) e q c [.list xs, .it true (.str b) j]))))) := by
  kernel_rfl
theorem zPR {n : Nat} {led : List SO} {v : SV} (h : okV n v) : SvT n led v v := by
 cases v <;> first | exact .keep h | exact .same trivial
theorem zIL {n : Nat} {led : List SO} : ∀ {xs : List SV}, (∀ x ∈ xs, okV n x) → SvsT n led xs xs
 | [], _ => .nil
 | x :: r, h => .cons (zPR (h x (.head _))) (zIL fun y hy => h y (.tail _ hy))
theorem zPa {x : Str} {y : SV} {m : List (Str × SV)} : ∀ {l : List (Str × SV)}, lk x l = some y → lk x (l ++ m) = some y
 | [], h => by cases h
 | (a, v) :: r, h => by
  have h' : lk x ((a, v) :: r) = some y := h
  show lk x ((a, v) :: (r ++ m)) = some y
  unfold lk at h' ⊢
  cases q : Fast.sEq x a with
  | true => rw [q] at h'; exact h'
  | false => rw [q] at h'; exact zPa h'
theorem zCJ {n : Nat} {loc more : List (Str × SV)} {led led' : List SO} (hl : okF n loc) (h : SosT n led (led.take n) led') : Trim n ⟨loc ++ more, led⟩ ⟨loc, led'⟩ :=
 ⟨fun x y hx => ⟨y, zPa hx, zPR (zEV hl _ (zCX hx))⟩, h⟩
noncomputable def hl : List Nat → Bool → Bool → List Nat → List (List Nat) → List (List Nat) × List Nat
 | [], _, _, p, res => (res, p)
 | c :: r, e, q, p, res =>
  if e then hl r false q (p ++ [c]) res
  else if q then (if c = 92 then hl r true q p res else if c = 34 then hl r e false (p ++ [c]) res else hl r e q (p ++ [c]) res)
  else if c = 44 then hl r e q [] (res ++ [p])
  else if c = 34 then hl r e true (p ++ [c]) res
  else hl r e q (p ++ [c]) res
noncomputable def txL (l : List (List Nat)) : List SV := l.map fun x => .str (tx x)
theorem zQu (n : Nat) (l : List (List Nat)) : ∀ x ∈ txL l, okV n x := fun x hx => by
 obtain ⟨y, _, rfl⟩ := List.mem_map.mp hx
 trivial
theorem zAk {c : Bool} {a b : Prop} (h1 : c = true → a) (h2 : c = false → b) : ifT c a b := by
 cases c with
 | true => exact h1 rfl
 | false => exact h2 rfl
theorem zNp (c d : Nat) : Fast.sEq (sgS c) (sgS d) = decide (c = d) := by
 cases h : Fast.sEq (sgS c) (sgS d) with
 | true =>
  have := zAO h
  have e : c = d := by
   have := congrArg (fun s : Str => s.cps.toList) this
   simpa [sgS] using this
  exact (decide_eq_true e).symm
 | false =>
  have e : c ≠ d := fun e => by
   subst e
   exact absurd rfl (zAZ h)
  exact (decide_eq_false e).symm
section
variable (P : Params) (b : Str)
theorem zMd {part : List Nat} {e q : Bool} {c : Str} {res : List (List Nat)} {j : Nat} : Trim 2 (hstc b (tx part) e q c [.list (txL res), .it true (.str b) j]) (hst b (tx part) e q [.list (txL res), .it true (.str b) j]) :=
 zCJ (loc := [("s", .str b), ("res", .obj 0), ("part", .str (tx part)), ("escape", .bool e), ("quote", .bool q)]) (more := [("cur", .str c)]) ⟨trivial, (by show 0 < 2; decide), trivial, trivial, trivial, trivial⟩ (.cons (.list (zIL (zQu 2 res))) (.cons (.it (.same trivial)) .nil))
theorem zMf (hb : b.length ≤ 1000000) (k : Kt) : ∀ (rest : List Nat) (j : Nat) (e q : Bool) (part : List Nat) (res : List (List Nat)), part.length + rest.length ≤ b.length → res.length + rest.length ≤ b.length →
  (∀ e' q', k .next (hst b (tx (hl rest e q part res).2) e' q' [.list (txL (hl rest e q part res).1), .gone])) →
  forE (zAN zDN (zAs zGb)) (fun st k => ev (cfH P) 35 zDN (.sts (zAT zGb)) st k) (.str b) (b.cps.toList.map fun c => .str (sgS c)) (.it true (.str b)) 1 j (rest.map fun c => .str (sgS c))
   (hst b (tx part) e q [.list (txL res), .it true (.str b) j]) k := by
 intro rest
 induction rest with
 | nil => intro j e q part res h1 h2 hk; exact ⟨rfl, rfl, hk e q⟩
 | cons c r ih =>
  intro j e q part res h1 h2 hk
  rw [List.length_cons] at h1 h2
  refine ⟨rfl, rfl, ?_⟩
  show zAN zDN (zAs zGb) (.str (sgS c)) (hst b (tx part) e q [.list (txL res), .it true (.str b) (j + 1)]) _
  rw [zMc]
  have hs : (tx part).length + (sgS c).length ≤ sizeLine := by
   rw [zAF, zBU, sizeLine_eq]; lia
  have ea : tx part ++ sgS c = tx (part ++ [c]) := by rw [← zEB, zAL]
  have e92 : Fast.sEq (sgS c) "\\" = decide (c = 92) := zNp c 92
  have e34 : Fast.sEq (sgS c) "\"" = decide (c = 34) := zNp c 34
  have e44 : Fast.sEq (sgS c) "," = decide (c = 44) := zNp c 44
  rw [e92, e34, e44, ea]
  have go : ∀ (e' q' : Bool) (p' : List Nat) (res' : List (List Nat)), p'.length + r.length ≤ b.length → res'.length + r.length ≤ b.length → hl (c :: r) e q part res = hl r e' q' p' res' →
    ∃ st₃, Trim 2 (hstc b (tx p') e' q' (sgS c) [.list (txL res'), .it true (.str b) (j + 1)]) st₃ ∧ forE (zAN zDN (zAs zGb)) (fun st k => ev (cfH P) 35 zDN (.sts (zAT zGb)) st k) (.str b) (b.cps.toList.map fun c => .str (sgS c)) (.it true (.str b)) 1 (j + 1) (r.map fun c => .str (sgS c)) st₃ k :=
   fun e' q' p' res' a1 a2 he => ⟨_, zMd b, ih (j + 1) e' q' p' res' a1 a2 fun e'' q'' => by rw [← he]; exact hk e'' q''⟩
  have lp : (part ++ [c]).length + r.length ≤ b.length := by rw [List.length_append]; simp; lia
  have lr : res.length + r.length ≤ b.length := by lia
  refine zAk (fun h => ⟨hs, ?_⟩) fun h => zAk (fun h3 => zAk (fun h4 => ?_) fun h4 => zAk (fun h5 => ⟨hs, ?_⟩) fun h5 => ⟨hs, ?_⟩) fun h3 => zAk (fun h4 => ⟨?_, ?_⟩) fun h4 => zAk (fun h5 => ⟨hs, ?_⟩) fun h5 => ⟨hs, ?_⟩
  ·exact go false q (part ++ [c]) res lp lr (by subst h; simp [hl])
  ·exact go true q part res (by lia) lr (by subst h h3; simp [hl, of_decide_eq_true h4])
  ·exact go e false (part ++ [c]) res lp lr (by subst h h3; simp [hl, of_decide_eq_true h5])
  ·exact go e q (part ++ [c]) res lp lr (by subst h h3; simp [hl, of_decide_eq_false h4, of_decide_eq_false h5])
  ·show (txL res).length ≤ sizeLine
   rw [show (txL res).length = res.length from List.length_map _, sizeLine_eq]; lia
  ·have := go e q [] (res ++ [part]) (by simp; lia) (by simp; lia) (by subst h h3; simp [hl, of_decide_eq_true h4])
   have ex : txL res ++ [.str (tx part)] = txL (res ++ [part]) := by simp [txL]
   rw [ex]
   exact this
  ·exact go e true (part ++ [c]) res lp lr (by subst h h3; simp [hl, of_decide_eq_true h5])
  ·exact go e q (part ++ [c]) res lp lr (by subst h h3; simp [hl, of_decide_eq_false h4, of_decide_eq_false h5])
end
theorem zIV {w : World} {A : Around} {s : Shared} {a : Str} {t : Tok} (X : (KK w.params).In s.heap) (G : GlobOk s.heap) (hh : A.handled = none) (hd : A.depth + 1 + 40 < recursionLimit) (hu : A.units + 3 + 8 * 40 < cLine) (hl : a.length ≤ 1000000) :
  codeAny (model prog w) A (.call (.ref 771) ⟨[.str a t], []⟩) (fun r s' => ∃ u, r = .ok (.ret (.str (tx (zAt a.cps.toList)) u)) ∧ Keeps s s') s := by
 have h0 : hideAll s.heap (([] : List (Addr × Obj)).map (·.1)) = s.heap := rfl
 have da : Den s.heap ⟨[], []⟩ (.str a) (.str a t) := ⟨⟨t, rfl⟩, by rw [sizeLine_eq]; lia⟩
 refine zHk (C := cfQ w.params false) (e := f759) (svs := [.str a]) true [] ⟨[], []⟩ [] (zSn _) (zAP (by kernel_rfl)) (fun p hp => nomatch hp) List.nodup_nil rfl .nil (by rw [h0]; exact X) (by rw [h0]; exact G) (fun h => nomatch h) hh (by lia) (.cons (by rw [h0]; exact da) .nil) rfl ?_
 intro F' h₁ tt ok' eA eS eh eB eQ R
 have kn : ∀ b o, s.heap.get? b = some o → F'.h₀.get? b = some o := fun b o q => by rw [eh]; exact q
 have goal : wpAny (model prog w) F'.A (execs (zAG s759) F'.env) (fun f s' => ∃ u, f = .ret (.str (tx (zAt a.cps.toList)) u) ∧ Keeps s s') (fun _ _ => False) { s with heap := h₁, toks := tt } := by
  refine wpAny_mono (zBY (cokQ w false) 40 F' (fun _ _ => False) (.sts (zAG s759)) ⟨[("s", .str a)], []⟩ (fun r st' => r = .ret (.str (tx (zAt a.cps.toList)))) ⟨[], []⟩ { s with heap := h₁, toks := tt } (fun c s' => ∃ u, c = .fl (.ret (.str (tx (zAt a.cps.toList)) u)) ∧ Keeps s s') ok' (by rw [eA]; show A.depth + 1 + 40 < _; lia) (by rw [eA]; show A.units + 3 + 8 * 40 < _; lia) ?_ R ?_) (fun f s' z => ?_) fun _ _ z => z
  ·rw [eS]
   show ev (cfQ w.params false) 40 (zAB s759).names (.sts (zAG s759)) { loc := [("s", .str a)], led := [] } _
   rw [zOC]
   refine zAk (fun q => ?_) fun q => ⟨rfl, rfl, ?_, fun hg => ?_, fun hb => ⟨rfl, rfl, hl, ?_⟩⟩
   ·have hz : a.length = 0 := by
     have : ((a.length : Int)) = 0 := by simpa using q
     lia
    have : a.cps.toList = [] := by
     have h0 : a.cps.size = 0 := hz
     exact Array.toList_eq_nil_iff.mpr (Array.eq_empty_of_size_eq_zero h0)
    rw [this]; rfl
   ·intro hz
    rw [hz] at q; exact absurd q (by decide)
   ·have hz : a.length ≠ 0 := by
     intro hz
     rw [hz] at q; exact absurd q (by decide)
    show SR.ret (.str a) = _
    have := zKv hz hg
    rw [this]
   ·show SR.ret _ = SR.ret _
    rw [zNO hb]
  ·rintro r st' more c s' rfl R' nx d
   cases c with
   | fl f =>
    cases f with
    | ret v =>
     obtain ⟨⟨u, rfl⟩, _⟩ := d
     refine ⟨u, rfl, s'.heap, s'.toks, ?_, ?_⟩
     ·have g1 : s'.gens = s.gens := nx.quiet eQ
      have g2 : s'.drawn = s.drawn := nx.drawn
      have g3 : s'.os = s.os := nx.os
      obtain ⟨a1, a2, a3, a4, a5⟩ := s'
      dsimp only at g1 g2 g3
      subst g1 g2 g3
      rfl
     ·intro b o q
      obtain ⟨m, news, lw, X'⟩ := R'
      exact X'.fr.keep b o (kn b o q)
    | _ => exact d.elim
   | _ => exact d.elim
  ·obtain ⟨u, e, k⟩ := z
   cases e
   exact ⟨u, rfl, k⟩
 refine wpAny_mono goal (fun f s' z => ?_) fun _ _ z => z.elim
 obtain ⟨u, rfl, k⟩ := z
 exact ⟨u, rfl, k⟩
noncomputable def s751 : Stmt := stAt 27 B01
noncomputable def f751 : FnE := ⟨763, 1, ["split_command"], [], zAG s751, zAB s751, "join", .ref 762, []⟩
theorem zSo (P : Params) : FnOk (KK P) f751 := FnOk.of (by kernel_rfl) (by kernel_rfl) ⟨_, _, _, _, (by kernel_rfl : (KK P).lookup 763 = some (o751 P)), rfl, rfl, fun _ _ => rfl, rfl, rfl, fun s vs X h => by
 obtain ⟨a, rfl⟩ := len1 h
 exact BindsTo.of_eq (by kernel_rfl)⟩
noncomputable def zET : List (Str × NameKind) → Bool
 | [] => true
 | (_, k) :: r => match k with
  | .cell => false
  | .free => false
  | _ => zET r
theorem zFZ : ∀ {l : List (Str × NameKind)}, zET l = true → ∀ x ∈ l, x.2 ≠ .cell ∧ x.2 ≠ .free
 | (a, k) :: r, h, x, hx => by
  have rest : zET r = true → x ∈ r → x.2 ≠ .cell ∧ x.2 ≠ .free := fun h hx => zFZ h x hx
  cases k <;> first | exact Bool.noConfusion h | (rcases List.mem_cons.mp hx with rfl | hx <;> first | exact rest h hx | exact ⟨nofun, nofun⟩)
noncomputable def zRO (k : Option NameKind) : Bool := match k with
 | none => false
 | some k => match k with
  | .globalImplicit => true
  | _ => false
theorem zOf {k : Option NameKind} (h : zRO k = true) : k = some .globalImplicit := by
 cases k with
 | none => exact Bool.noConfusion h
 | some k => cases k <;> first | rfl | exact Bool.noConfusion h
noncomputable def zQi (sc : Scope) : Bool := !sc.isCoroutine && (zET sc.names && (kLoc (zAb ".0" sc.names) && (kLoc (zAb "arg" sc.names) && (zRO (zAb "quote" sc.names) && zHQ sc.kind))))
theorem zTo : ∃ n p1 p2 p3 p4 p5 p6 p7 p8 p9 p10 sc, zAG s751 = [.Return (some (.Call (.Attribute (.Constant (.str " ") n p1) "join" p2) [.GeneratorExp (.Call (.Name "quote" p3) [.Name "arg" p4] [] p5) [⟨.Name "arg" p6, .Name "split_command" p7, [], 0⟩] sc p8] [] p9)) p10] ∧
  (p2.endLine == p9.line) = true ∧ zQi sc = true :=
 let a := stAt 0 (zAG s751); let e := sEx a
 ⟨kK e [0, 0], kp e [0, 0], kp e [0], kp e [1, 0, 0], kp e [1, 0, 1], kp e [1, 0], kp e [1, 1], kp e [1, 2], kp e [1], kp e [], a.pos, geSc (kid e [1]), by kernel_rfl, by kernel_rfl, by kernel_rfl⟩
theorem zEM {sc : Scope} (h : zQi sc = true) : sc.isCoroutine = false ∧ zET sc.names = true ∧ kLoc (zAb ".0" sc.names) = true ∧ kLoc (zAb "arg" sc.names) = true ∧ zRO (zAb "quote" sc.names) = true ∧ zHQ sc.kind = true :=
 ⟨zLw (zAM h).1, (zAM (zAM h).2).1, (zAM (zAM (zAM h).2).2).1, (zAM (zAM (zAM (zAM h).2).2).2).1, zAM (zAM (zAM (zAM (zAM h).2).2).2).2⟩
noncomputable def zDj (x : Str) : Str := tx (zAt x.cps.toList)
section
variable {w : World}
theorem zOc {A : Around} {E : Value → Shared → Prop} {h₀ : Heap} {s : Shared} {sc : Scope} {Cc : Addr} {code : Value} {env : Env} {m : Str → Option Value} {a : Str} {t : Tok} {p3 p4 p5 : Pos} (X : (KK w.params).In h₀) (G : GlobOk h₀) (kp : ∀ b o, h₀.get? b = some o → s.heap.get? b = some o)
  (hg : env.globals = mainGlobals) (hsc : zQi sc = true) (hn : s.heap.Ns Cc m) (hm : m "arg" = some (.str a t)) (hl : a.length ≤ 1000000) (hh : A.handled = none) (hd : A.depth + 1 + 40 < recursionLimit) (hu : A.units + 3 + 8 * 40 < cLine) :
  wpAny (model prog w) A (eval (.Call (.Name "quote" p3) [.Name "arg" p4] [] p5) (genEnv sc [] Cc code builtinsNs env)) (fun y s₃ => (∃ u, y = .str (zDj a) u) ∧ Keeps s s₃) E s := by
 obtain ⟨c1, c2, c3, c4, c5, c6⟩ := zEM hsc
 have hk : sc.kind = .function := by
  exact zCw c6
 have n1 : sc.names.lookup ("arg" : Str) = some NameKind.local := zEh c4
 have n2 : sc.names.lookup ("quote" : Str) = some NameKind.globalImplicit := by rw [← zAV]; exact zOf c5
 obtain ⟨mg, mb, G1, G2, G3⟩ := G.ns
 have XK : (KK w.params).In s.heap := X.keeps kp
 have hq : mg "quote" = some (.ref 771) := mg_of X G1 (by kernel_rfl)
 refine Call_ (Calls.Name_function_global hk n2 (Calls.loadGlobal_global (by show s.heap.Ns env.globals mg; rw [hg]; exact G1.keeps kp) hq ?_) (by decide))
 refine zBe (K := KK w.params) rfl (spliced_more (wpAny_Name (wpAny_loadName_local hk n1 hn hm (spliced_none ?_)) (by decide)) rfl)
 refine ⟨⟨XK, by kernel_rfl⟩, wpAny_call (codeAny_mono (zIV XK (G.keeps kp) hh hd hu hl) fun r s' z => ?_)⟩
 obtain ⟨u, rfl, k⟩ := z
 exact ⟨⟨u, rfl⟩, k⟩
end
set_option maxHeartbeats 2000000
section
variable {w : World} {F : Fm} {ads : Wd} {st : St}
theorem zQl {h : Heap} {i : Nat} {p : Addr} (R : Rep w F ads st h) (hi : st.led[i]? = some (.tab p)) : ∃ ps, h.get? p = some (tabO ps) ∧ TriplesOk ps.toList ∧ F.h₀.get? p = none ∧
  ∀ h' ps', h'.get? p = some (tabO ps') → TriplesOk ps'.toList → (∀ b, b ≠ p → ∀ o, h.get? b = some o → h'.get? b = some o) → Rep w F ads st h' := by
 obtain ⟨m, news, lw, X⟩ := R
 obtain ⟨pre, ps, post, a, dd, h1, h2, h3, h4⟩ := X.led.at hi
 obtain ⟨rfl, vs, c3, rfl⟩ := h3.inv
 ·have z := X.nw (p, tabO vs) (by rw [h1]; simp)
  refine ⟨vs, z.1, c3, z.2.2, fun h' ps' g1 g4 hs => ?_⟩
  have := zCL X h1 (h4 (.tab p) _ (One.tab g4)) g1 hs
  have e : st.led.set i (.tab p) = st.led := by
   apply List.ext_getElem?
   intro j
   rw [List.getElem?_set]
   split
   ·rename_i q
    subst q
    split
    ·exact hi.symm
    ·rename_i q2
     rw [List.getElem?_eq_none (by lia)] at hi; cases hi
   ·rfl
  have e2 : ({ st with led := st.led.set i (.tab p) } : St) = st := by rw [e]
  rw [e2] at this
  exact this
end
theorem zNB (P : Params) : ∃ vs sl, o750 P = ⟨.type "code", none, .fields vs, sl⟩ ∧ vs.getD 11 .none = .ref 758 ∧ (∃ f t, vs.getD 18 .none = .str f t) ∧ (∃ n t, vs.getD 7 .none = .int n t) ∧ (∃ b, vs.getD 9 .none = .bool b) ∧ (∃ n t, vs.getD 10 .none = .int n t) :=
 ⟨_, _, rfl, rfl, ⟨_, _, rfl⟩, ⟨_, _, rfl⟩, ⟨_, rfl⟩, ⟨_, _, rfl⟩⟩
theorem zFR {P : Params} {h : Heap} {ps : Array Value} (X : (KK P).In h) (ho : h.get? 758 = some (tabO ps)) : h.TableAt 762 758 ps := by
 have hc := X _ _ (by kernel_rfl : (KK P).lookup 762 = some (o750 P))
 exact ⟨⟨_, _, hc, rfl, rfl, rfl⟩, ho⟩
theorem zHb {M : Model} {A : Around} {E : Value → Shared → Prop} {s : Shared} {env : Env} {c P : Addr} {ps : Array Value} {pos : Pos} {qualname : Str} {scope : Scope} {Q : Value → Shared → Prop} (hc : env.code = .ref c) (hok : s.heap.IsCode c P ps) (htab : s.heap.TableAt c P ps)
  (hQ : ∀ code h' tk ps', Heap.ExtBut P s.heap h' → h'.IsCode c P ps' → h'.get? P = some (tabO ps') → Q code { s with heap := h', toks := tk }) : wpAny M A (genexprCode env pos qualname scope) Q E s := by
 cases hnf : codeAmong pos ps.toList with
 | some cv => exact wpAny_genexprCode_hit hc hok hnf (hQ cv s.heap s.toks ps (Heap.ExtBut.refl _ _) hok htab.2)
 | none => exact wpAny_genexprCodeX hc hok htab hnf fun c' h' tk a b b2 d e f g => hQ (.ref c') h' tk _ a d f.2
theorem zMZ {P : Params} {h : Heap} {o : Obj} {ps : Array Value} (X : (KK P).In h) (ho : h.get? 758 = some o) (hd : o.data = .fields ps) (ht : TriplesOk ps.toList) : h.IsCode 762 758 ps := by
 obtain ⟨vs, sl, e, a, ⟨f, t, b⟩, ⟨n, tn, c⟩, ⟨bb, d⟩, ⟨n2, t2, g⟩⟩ := zNB P
 have hc := X _ _ (by kernel_rfl : (KK P).lookup 762 = some (o750 P))
 rw [e] at hc
 exact ⟨_, vs, f, t, n, tn, bb, n2, t2, o, hc, rfl, a, b, c, d, g, ho, hd, ht, by decide⟩
theorem zIW (n : Nat) : passing (fun _ => true) n 0 = List.range n := by
 unfold passing; rw [List.drop_zero]; exact List.filter_eq_self.mpr fun _ _ => rfl
set_option maxHeartbeats 4000000
noncomputable def zOe (svs : List SV) (st : St) (k : Kt) : Prop := on1 svs fun x => onD x fun d => onLs d fun ds => (∃ rest, st.led = .tab 758 :: rest) ∧ ∃ ws : List Str, ds = ws.map .str ∧ (∀ x ∈ ws, x.length ≤ 1000000) ∧ JoinOk " " (ws.map zDj) = true ∧ (Txt.join " " (ws.map zDj)).length ≤ sizeLine ∧ k (.v (.str (Txt.join " " (ws.map zDj)))) st
noncomputable def joinSp : SpE := ⟨763, 1, 120, zOe⟩
theorem zIj {svs : List SV} {st : St} {k : Kt} (h : zOe svs st k) : ∃ (ws : List Str) (rest : List SO), svs = [.dat (.list (ws.map .str))] ∧ st.led = .tab 758 :: rest ∧ (∀ x ∈ ws, x.length ≤ 1000000) ∧ JoinOk " " (ws.map zDj) = true ∧ (Txt.join " " (ws.map zDj)).length ≤ sizeLine ∧ k (.v (.str (Txt.join " " (ws.map zDj)))) st := by
 obtain ⟨x, rfl, h⟩ := zAc h
 obtain ⟨d, rfl, h⟩ := zCQ h
 obtain ⟨ds, rfl, ⟨r, hl⟩, ws, rfl, a⟩ := zCt h
 exact ⟨ws, r, rfl, hl, a⟩
theorem zHt {cells : List (Str × Addr)} : ∀ {l : List (Str × NameKind)} {acc : List (Str × Addr)}, (∀ x ∈ l, x.2 ≠ .free) → clOf cells l acc = acc
 | [], _, _ => rfl
 | (x, k) :: r, acc, h => by
  unfold clOf
  split
  ·exact absurd rfl (h (x, .free) (.head _))
  ·exact zHt fun y hy => h y (.tail _ hy)
theorem zMp {a b : Array GenState} {gs : GenState} (hb : gs.bare = true) (h : GenOnlyQ a.size (a.push gs) b) : (∀ (i : Nat) (x : GenState), a[i]? = some x → b[i]? = some x) ∧ (∀ (i : Nat) (x : GenState), b[i]? = some x → a[i]? = some x ∨ x.bare = true) := by
 have old : ∀ (i : Nat), i ≠ a.size → (a.push gs)[i]? = a[i]? := fun i hi => by
  rw [Array.getElem?_push, if_neg hi]
 have lt : ∀ (i : Nat) (x : GenState), a[i]? = some x → i ≠ a.size := fun i x e q => by
  subst q
  simp at e
 rcases h with rfl | ⟨⟨_, ho⟩, hg⟩
 ·refine ⟨fun i x e => by rw [old i (lt i x e)]; exact e, fun i x e => ?_⟩
  by_cases q : i = a.size
  ·subst q
   rw [Array.getElem?_push_size] at e
   cases e; exact .inr hb
  ·rw [old i q] at e; exact .inl e
 ·refine ⟨fun i x e => by rw [ho i (lt i x e), old i (lt i x e)]; exact e, fun i x e => ?_⟩
  by_cases q : i = a.size
  ·exact .inr (hg x (q ▸ e))
  ·rw [ho i q, old i q] at e; exact .inl e
theorem zCh (l : List (Str × Tok)) (j : Nat) : (strValues l).toArray[j]? = (l[j]?).map fun p => Value.str p.1 p.2 := by
 simp [strValues]
theorem zKp {h : Heap} {c P : Addr} {ps : Array Value} (hc : h.IsCode c P ps) : ∃ op, h.get? P = some op ∧ op.data = .fields ps ∧ TriplesOk ps.toList := by
 obtain ⟨_, _, _, _, _, _, _, _, _, op, _, _, _, _, _, _, _, e1, e2, e3, _⟩ := hc
 exact ⟨op, e1, e2, e3⟩
theorem zRM {w : World} {C : Cf} (hK : C.K = KK w.params) (hC : C.known = true) : SpOk w C joinSp := by
 obtain ⟨nn, p1, p2, p3, p4, p5, p6, p7, p8, p9, p10, sc, e, hp, hsc⟩ := zTo
 have hsc0 := hsc
 obtain ⟨c1, c2, c3, c4, c5, c6⟩ := zEM hsc
 have hkd : sc.kind = .function := zCw c6
 have hnames := zFZ c2
 refine ⟨by rw [hK]; kernel_rfl, ?_⟩
 intro F A ads st s svs vs k Q Rr ok hA hh hd hu h R D hl' T hR
 obtain ⟨ws, rest, rfl, hled, hws, hj, hjl, hk⟩ := zIj h
 have okY : FmOk (cfK w.params) F := zAY hK.symm ok (by first | exact fun _ => rfl | exact fun _ => by assumption | exact fun h => h)
 have hq : F.quiet = false := ok.loud hC
 have d40 : joinSp.d = 120 := rfl
 rw [d40] at hd hu
 refine zDD (C := cfK w.params) (e := f751) (svs := [.dat (.list (ws.map .str))]) (led₁ := [.tab 758]) (led₂ := rest) (zSo _) okY (fun _ => hA hC) hh (by lia) R D hl' hled ⟨trivial, trivial⟩ (fun x hx => by rw [List.mem_singleton.mp hx]; exact trivial) List.nodup_nil fun F' W Wc h₁ t ok' eA eS eB eT eZ eL R0' back bv => ?_
 have R' : Rep w F' W ⟨[("split_command", .dat (.list (ws.map .str)))], [.tab 758]⟩ h₁ := zKx eZ eL R0'
 have eN : F'.sc.names = (zAB s751).names := by rw [eS]; rfl
 have hcode : F'.env.code = .ref 762 := eT.2.2
 have hdep : F'.A.depth = A.depth + 1 := by rw [eA]; rfl
 have huni : F'.A.units = A.units + 3 := by rw [eA]; rfl
 have fin : ∀ s' u, Rep w F' W ⟨[("split_command", .dat (.list (ws.map .str)))], [.tab 758]⟩ s'.heap → Nx F s s' → Rr (.ok (.ret (.str (Txt.join " " (ws.map zDj)) u))) s' := fun s' u R2 nx => by
  have R3 := back [] _ _ _ (by rw [show (wa W (⟨[], []⟩ : Wd)) = W from Wd.append_nil W]; exact R2)
  have e : ({ loc := st.loc, led := [.tab 758] ++ rest } : St) = st := by
   show St.mk st.loc (.tab 758 :: rest) = st
   rw [← hled]
  rw [e] at R3
  exact hR _ _ (T (.v (.str (Txt.join " " (ws.map zDj)))) st ⟨[], []⟩ (.v (.str _ u)) s' hk R3 nx ⟨⟨u, rfl⟩, hjl⟩)
 obtain ⟨ps, hg7, ht7, hn7, upd⟩ := zQl R' (i := 0) rfl
 have hclos : closureFor sc F'.env = pure [] := by
  rw [zDE fun x hx hf => absurd hf (hnames x hx).2, zHt fun x hx => (hnames x hx).2]
 have R1 : ∀ tt, Rep w F' W ⟨[("split_command", .dat (.list (ws.map .str)))], [.tab 758]⟩ ({ s with heap := h₁, toks := tt } : Shared).heap := fun tt => R'
 show wpAny (model prog w) F'.A (execs (zAG s751) F'.env) _ _ _
 rw [e]
 refine wpAny_execs_cons (wpAny_Return_some ?_)
 refine MethodCall_ (wpAny_Constant_str ?_) (zDy (by unfold mcOk; rw [hp]; rfl))
 refine GM.join ?_
 refine zAS (fun a e => nomatch e) rfl (spliced_more ?_ rfl)
 have lim1 : h₁.NoLimit := by
  obtain ⟨_, _, _, X⟩ := R'
  exact ok'.G.lim.keeps X.fr.keep
 have keep1 : ∀ b o, F'.h₀.get? b = some o → h₁.get? b = some o := fun b o q => by
  obtain ⟨_, _, _, X⟩ := R'
  exact X.fr.keep b o q
 have X0 : (KK w.params).In F'.h₀ := ok'.X
 refine wpAny_GeneratorExp_walksQD ok'.hand c1 hclos (fun y hy => (hnames y hy).1) (zEh c3) (zEh c4) hkd (by rw [hdep]; lia) ?_ (fun x => by rfl)
 refine zGT ok' (by rw [eN]; kernel_rfl) (sv := .dat (.list (ws.map .str))) (by kernel_rfl) (by kernel_rfl) (R1 _) fun u du => ?_
 obtain ⟨a, us, ds, rfl, hlst, hf, hrd, hle, hds⟩ := zBA (v := .dat (.list (ws.map .str))) (k := fun ds => ds = ws.map .str) ok' (R1 (t + 1)) du rfl
 subst hds
 obtain ⟨l, rfl, hlw⟩ := zGL hrd
 have ha : a < h₁.objs.size := by obtain ⟨_, q, _⟩ := hlst; exact Heap.lt_size q
 have h746 : (758 : Nat) < h₁.objs.size := Heap.lt_size hg7
 have ha7 : a ≠ 758 := fun e => by
  obtain ⟨o, q1, q2, n0, q3⟩ := hlst
  rw [e] at q1
  have q1' : h₁.get? 758 = some o := q1
  rw [hg7] at q1'
  cases q1'
  cases q3
 refine wpAny_pyIter_list hlst ⟨lim1.push _, ?_⟩
 have kpush : ∀ (oo : Obj) b o, h₁.get? b = some o → (h₁.push oo).get? b = some o := fun oo b o q => Heap.get?_push_of_some _ q
 refine zHb hcode (zMZ (X0.keeps fun b o q => kpush _ b o (keep1 b o q)) (kpush _ _ _ hg7) rfl ht7) (zFR (X0.keeps fun b o q => kpush _ b o (keep1 b o q)) (kpush _ _ _ hg7)) fun code h₃ tk ps' hx hcd hop2 => ?_
 obtain ⟨op, hop, hpd, htr⟩ := zKp hcd
 have k3 : ∀ b o, b ≠ 758 → h₁.get? b = some o → h₃.get? b = some o := fun b o hb q => hx b o hb (kpush _ b o q)
 have k0 : ∀ b o, F'.h₀.get? b = some o → h₃.get? b = some o := fun b o q => k3 b o (fun e => by rw [e, hn7] at q; cases q) (keep1 b o q)
 obtain ⟨mg, mb, G1, G2, G3⟩ := ok'.G.ns
 have hbm : mg "__builtins__" = some (.ref 4) := mg_of X0 G1 (by kernel_rfl)
 have X3 : (KK w.params).In h₃ := X0.keeps k0
 refine wpAny_builtinsFor (m := mg) (bm := 4) (by show h₃.Ns F'.env.globals mg; rw [ok'.gl]; exact G1.keeps k0) hbm (by decide) (X3 _ _ (by kernel_rfl : (KK w.params).lookup 4 = some (o4 w.params))) rfl rfl rfl ?_
 have hIg : h₃.get? h₁.objs.size = some { cls := .type "list_iterator", data := .fields #[.ref a, .int 0 0] } := hx _ _ (Nat.ne_of_gt h746) (Heap.get?_push_size _ rfl)
 have hag : h₃.IsList a (strValues l).toArray := by obtain ⟨o, q, r⟩ := hlst; exact ⟨o, k3 a o ha7 q, r⟩
 have lim3 : h₃.NoLimit := ok'.G.lim.keeps k0
 have lt0 : ∀ b o, F'.h₀.get? b = some o → b < h₁.objs.size := fun b o q => Heap.lt_size (keep1 b o q)
 have lwl : ws.length = l.length := by rw [← hlw]; simp
 have szl : (strValues l).toArray.size = l.length := by simp [strValues]
 refine ⟨h₁.objs.size, [h₁.objs.size, a], [h₁.objs.size], (strValues l).toArray.size, _, _, fun _ => true, fun i y => ∃ x u, ws[i]? = some x ∧ y = .str (zDj x) u, rfl, fun A' hA' => Walks.list hA' _ _ (Nat.ne_of_lt ha) _, ⟨⟨_, hIg, rfl, rfl⟩, hag⟩, ?_, lim3, ?_, fun href hhref => ⟨?_, ?_⟩, fun a' h₅ tk' gs hb' hlt hsz hk5 Wk hat => ?_⟩
 ·intro b hb
  rcases List.mem_cons.mp hb with rfl | hb
  ·exact Heap.lt_size hIg
  ·rw [List.mem_singleton.mp hb]
   exact Nat.lt_of_lt_of_le ha (Nat.le_of_lt (Heap.lt_size hIg))
 ·intro hm
  obtain ⟨o, q, _⟩ := ok'.G.stat
  have := lt0 _ _ q
  rw [List.mem_singleton.mp hm] at this
  exact Nat.lt_irrefl _ this
 ·intro A' E' i v s₂ m₂ _ _ _ _ _ _ _
  exact wpAny_pure ⟨rfl, s₂.heap, s₂.toks, rfl, fun _ _ q => q⟩
 ·intro A' E' i v s₂ m₂ hA' hD' hU' hP _ hns hm hkp
  rw [zCh, Option.map_eq_some_iff] at hP
  obtain ⟨⟨x, tx'⟩, hli, rfl⟩ := hP
  have hwi : ws[i]? = some x := by rw [← hlw, List.getElem?_map, hli]; rfl
  refine wpAny_mono (zOc (h₀ := F'.h₀) X0 ok'.G (fun b o q => hkp b (List.mem_range.mpr (Heap.lt_size (k0 b o q))) (fun hm => ?_) o (hhref b o (k0 b o q))) ok'.gl hsc0 hns hm (hws x (List.mem_of_getElem? hwi)) hA' (by lia) (by lia)) (fun y s₃ z => ?_) fun _ _ z => z
  ·have := lt0 _ _ q
   rw [List.mem_singleton.mp hm] at this
   exact Nat.lt_irrefl _ this
  ·obtain ⟨⟨u, e⟩, k⟩ := z
   exact ⟨⟨x, u, hwi, e⟩, k⟩
 ·refine spliced_none ?_
  rw [zIW] at Wk
  rw [szl] at Wk hat
  refine SC.joinGen Wk.in4_2 (fun i s' z => z.1.typeIs) hat ?_ (List.mem_cons_self ..) ?_ (fun s' lt hm hacc => ?_) ?_
  ·intro b hb
   show b < h₅.objs.size
   rw [hsz]
   rcases List.mem_cons.mp hb with rfl | hb
   ·exact Nat.lt_succ_self _
   ·rcases List.mem_cons.mp hb with rfl | hb
    ·exact Nat.lt_succ_of_lt hlt
    ·exact Nat.lt_succ_of_lt (Nat.lt_trans (List.mem_range.mp hb) hlt)
  ·rintro j v ⟨i, _, x, u, _, rfl⟩
   exact ⟨_, _, rfl⟩
  ·have hl : lt.map (·.1) = ws.map zDj := by
    apply List.ext_getElem?
    intro j
    have hsz2 : lt.length = l.length := by
     have := hacc.1
     simpa [strValues] using this
    by_cases hj2 : j < l.length
    ·have hj' : j < lt.length := hsz2 ▸ hj2
     obtain ⟨i, hi, x, u, hwi, hv⟩ := hacc.2 j (.str lt[j].1 lt[j].2) (by rw [zCh, List.getElem?_eq_getElem hj']; rfl)
     have hij : i = j := by
      rw [List.getElem?_range hj2] at hi
      exact (Option.some.inj hi).symm
     subst hij
     injection hv with h1 _
     rw [List.getElem?_map, List.getElem?_map, List.getElem?_eq_getElem hj', hwi]
     simp [h1]
    ·rw [List.getElem?_eq_none (by simp; lia), List.getElem?_eq_none (by simp; lia)]
   rw [hl]
   refine ⟨hj, fun u k => ?_⟩
   have k5 : ∀ b o, b ≠ 758 → h₁.get? b = some o → s'.heap.get? b = some o := fun b o hb q => by
    refine hm.heap b o (fun hmem => ?_) (hk5 b o (k3 b o hb q))
    have hb1 := Heap.lt_size q
    have hb3 := Heap.lt_size (k3 b o hb q)
    rcases List.mem_cons.mp hmem with e | hmem
    ·rw [e] at hb3; exact Nat.lt_irrefl _ hb3
    ·rw [List.mem_singleton.mp hmem] at hb1; exact Nat.lt_irrefl _ hb1
   have h7' : s'.heap.get? 758 = some (tabO ps') := by
    refine hm.heap _ _ (fun hmem => ?_) (hk5 _ _ hop2)
    have hb3 := Heap.lt_size hop
    rcases List.mem_cons.mp hmem with e | hmem
    ·rw [← e] at hb3; exact Nat.lt_irrefl _ hb3
    ·rw [List.mem_singleton.mp hmem] at h746; exact Nat.lt_irrefl _ h746
   have R2 := upd s'.heap ps' h7' htr fun b hb o q => k5 b o hb q
   have gd := zMp hb' hm.gens
   exact fin { s' with toks := k } u R2 ⟨hm.drawn, hm.os, gd.1, gd.2, fun q => by rw [hq] at q; cases q⟩
  ·rw [List.length_range, ← lwl]
   have : (ws.map PyData.str).length ≤ sizeLine := hle
   rwa [List.length_map] at this
set_option maxHeartbeats 1000000
noncomputable def zBH : Expr → Expr
 | .ListComp a _ _ _ => a
 | _ => default
noncomputable def zAm : Expr → Expr
 | .ListComp _ [g] _ _ => g.target
 | _ => default
noncomputable def lcSc : Expr → Scope
 | .ListComp _ _ sc _ => sc
 | _ => default
noncomputable def zHO : Expr := rVal (stAt 5 (zAG s771))
noncomputable def zIp : List (Str × NameKind) := zAu (lcSc zHO).names
noncomputable def zRS (P : Params) (loc : List (Str × SV)) (ys : List SV) (k : Kt) : Prop :=
 zBQ (zAN zIp (zAm zHO)) none (fun st k => ev (cfH P) 33 zIp (.ex (zBH zHO)) st k) (.obj 0) ys (.it true (.obj 0)) 2 3 0 ys ⟨[], [.list ys, .gone, .it true (.obj 0) 0, .list []]⟩
  (fun stE => zAf loc 2 3 stE fun v st₁ => k (.ret v) st₁)
theorem zMe (P : Params) (b part : Str) (e q : Bool) (xs : List SV) (k : Kt) : ev (cfH P) 36 zDN (.sts ((zAG s771).drop 4)) (hst b part e q [.list xs, .gone]) k =
   ifT ((part.length : Int) != 0) (xs.length ≤ sizeLine ∧ zRS P [("s", .str b), ("res", .obj 0), ("part", .str part), ("escape", .bool e), ("quote", .bool q)] (xs ++ [.str part]) k)
     (zRS P [("s", .str b), ("res", .obj 0), ("part", .str part), ("escape", .bool e), ("quote", .bool q)] xs k) := by
  kernel_rfl
theorem zOj (P : Params) (x : Str) (ys zs : List SV) (j : Nat) (k : Kt) (D : St → Prop) : zAN zIp (zAm zHO) (.str x) ⟨[], [.list ys, .gone, .it true (.obj 0) j, .list zs]⟩ (fun st₁ => zCA none st₁ fun c st₂ => ifT c (ev (cfH P) 33 zIp (.ex (zBH zHO)) st₂ k) (D st₂)) =
   k (.v (.str (Txt.strip x))) ⟨[("part", .str x)], [.list ys, .gone, .it true (.obj 0) j, .list zs]⟩ := by
  kernel_rfl
theorem zHd : ∀ l : List Str, frzs (l.map .str) = some (l.map .str)
 | [] => rfl
 | a :: r => by
  show (match frz1 (.str a) with | some d => (match frzs (r.map .str) with | some ds => some (d :: ds) | none => none) | none => none) = _
  rw [zHd r]
  rfl
theorem zBK (n : Nat) (led : List SO) (l : List Str) : SvsT n led (l.map .str) (l.map .str) := zIL fun x hx => by
 obtain ⟨y, _, rfl⟩ := List.mem_map.mp hx
 trivial
theorem zHY (P : Params) (loc : List (Str × SV)) (hloc : okF 2 loc) (all : List Str) (hall : all.length ≤ 1000001) (k : Kt) (hk : k (.ret (.dat (.list ((all.map Txt.strip).map .str)))) ⟨loc, [.list (all.map .str), .gone]⟩) : zRS P loc (all.map .str) k := by
 have loop : ∀ (rest : List Str) (j : Nat) (done : List Str), done.length + rest.length ≤ 1000001 → done ++ rest.map Txt.strip = all.map Txt.strip →
   zBQ (zAN zIp (zAm zHO)) none (fun st k => ev (cfH P) 33 zIp (.ex (zBH zHO)) st k) (.obj 0) (all.map .str) (.it true (.obj 0)) 2 3 j (rest.map .str) ⟨[], [.list (all.map .str), .gone, .it true (.obj 0) j, .list (done.map .str)]⟩
    (fun stE => zAf loc 2 3 stE fun v st₁ => k (.ret v) st₁) := by
  intro rest
  induction rest with
  | nil =>
   intro j done h1 h2
   rw [List.map_nil, List.append_nil] at h2
   subst h2
   refine ⟨rfl, rfl, ?_⟩
   exact ⟨_, _, ⟨loc, [.list (all.map .str), .gone]⟩, rfl, zHd _, by rw [List.length_map, List.length_map, sizeLine_eq]; lia, by
    have := zCJ (n := 2) (loc := loc) (more := []) (led := [.list (all.map .str), .gone, .gone, .list ((all.map Txt.strip).map .str)]) (led' := [.list (all.map .str), .gone]) hloc (.cons (.list (zBK 2 _ all)) (.cons .gone .nil))
    rw [List.append_nil] at this; exact this, hk⟩
  | cons x r ih =>
   intro j done h1 h2
   rw [List.length_cons] at h1
   refine ⟨rfl, rfl, ?_⟩
   show zAN zIp (zAm zHO) (.str x) ⟨[], [.list (all.map .str), .gone, .it true (.obj 0) (j + 1), .list (done.map .str)]⟩ _
   rw [zOj]
   show (done.map SV.str).length ≤ sizeLine ∧ _
   refine ⟨by rw [List.length_map, sizeLine_eq]; lia, ⟨[], [.list (all.map .str), .gone, .it true (.obj 0) (j + 1), .list ((done ++ [Txt.strip x]).map .str)]⟩, ?_, ?_⟩
   ·have ex : (done.map SV.str) ++ [.str (Txt.strip x)] = (done ++ [Txt.strip x]).map .str := by simp
    rw [← ex]
    exact zCJ (n := 4) (loc := []) (more := [("part", .str x)]) trivial (.cons (.list (zBK 4 _ all)) (.cons .gone (.cons (.it (.keep (by decide))) (.cons (.list (by rw [ex]; exact zBK 4 _ _)) .nil))))
   ·refine ih (j + 1) (done ++ [Txt.strip x]) (by rw [List.length_append]; simp; lia) ?_
    rw [List.append_assoc]; exact h2
 have := loop all 0 [] (by simpa using hall) rfl
 exact this
theorem zBS (f : St → Kt → Prop) (k : Kt) (st : St) : zDH f k .next st = f st k := rfl
noncomputable def zBl (l : List Nat) : List (List Nat) := if (hl l false false [] []).2 = [] then (hl l false false [] []).1 else (hl l false false [] []).1 ++ [(hl l false false [] []).2]
noncomputable def zBy (l : List Nat) : List Str := (zBl l).map fun x => Txt.strip (tx x)
theorem zDh : ∀ (l : List Nat) (e q : Bool) (p : List Nat) (res : List (List Nat)), (hl l e q p res).1.length ≤ res.length + l.length
 | [], _, _, _, _ => Nat.le_refl _
 | c :: r, e, q, p, res => by
  unfold hl
  rw [List.length_cons]
  split
  ·have := zDh r false q (p ++ [c]) res; lia
  ·split
   ·split
    ·have := zDh r true q p res; lia
    ·split
     ·have := zDh r e false (p ++ [c]) res; lia
     ·have := zDh r e q (p ++ [c]) res; lia
   ·split
    ·have := zDh r e q [] (res ++ [p]); rw [List.length_append] at this; simp at this; lia
    ·split
     ·have := zDh r e true (p ++ [c]) res; lia
     ·have := zDh r e q (p ++ [c]) res; lia
noncomputable def zSd (svs : List SV) (st : St) (k : Kt) : Prop := on1 svs fun x => onS x fun b => b.length ≤ 1000000 ∧ k (.v (.dat (.list ((zBy b.cps.toList).map .str)))) st
noncomputable def httpSp : SpE := ⟨56, 1, 60, zSd⟩
theorem zIl {svs : List SV} {st : St} {k : Kt} (h : zSd svs st k) : ∃ b, svs = [.str b] ∧ b.length ≤ 1000000 ∧ k (.v (.dat (.list ((zBy b.cps.toList).map .str)))) st := by
 obtain ⟨x, rfl, h⟩ := zAc h
 obtain ⟨b, rfl, h⟩ := zAi h
 exact ⟨_, rfl, h⟩
theorem zRR {w : World} {C : Cf} (hK : C.K = KK w.params) (hC : C.known = true) : SpOk w C httpSp := by
 refine ⟨by rw [hK]; kernel_rfl, ?_⟩
 intro F A ads st s svs vs k Q Rr ok hA hh hd hu h R D hl' T hR
 replace hA : true = true → A.frames = some F.stk := fun _ => hA hC
 obtain ⟨b, rfl, hlen, hk⟩ := zIl h
 have okY : FmOk (cfH w.params) F := zAY hK.symm ok (by first | exact fun _ => rfl | exact fun _ => by assumption | exact fun h => h)
 have d40 : httpSp.d = 60 := rfl
 rw [d40] at hd hu
 refine zBd (e := f771) (n := 40) (led₁ := []) (led₂ := st.led) (zBY (cokH w) 40) (zSm _) okY hA hh (by lia) (by lia) R D hl' rfl trivial (fun x hx => by rw [List.mem_singleton.mp hx]; exact trivial) List.nodup_nil ?_ T hR
 show ev (cfH w.params) 40 zDN (.sts (zAG s771)) { loc := [("s", .str b)], led := [] } _
 rw [zMg]
 have hb : b.length = b.cps.toList.length := by simp [Str.length]
 refine zMf w.params b hlen _ b.cps.toList 0 false false [] [] (by simp [hb]) (by simp [hb]) fun e' q' => ?_
 rw [zBS, zMe]
 have h1 := zDh b.cps.toList false false [] []
 rw [List.length_nil, Nat.zero_add] at h1
 have fin : ∀ (loc : List (Str × SV)) (led : List SO), ∃ x y led', (SR.ret (.dat (.list ((zBy b.cps.toList).map .str))) = .ret x ∨ (SR.ret (.dat (.list ((zBy b.cps.toList).map .str))) = .next ∧ x = .none)) ∧ SvT 0 led x y ∧ SosT 0 led (led.take 0) led' ∧ k (.v y) { loc := st.loc, led := led' ++ st.led } :=
  fun _ _ => ⟨_, _, [], .inl rfl, .same trivial, .nil, hk⟩
 have e1 : ∀ l : List (List Nat), (l.map tx).map SV.str = txL l := fun l => by simp [txL]
 refine zAk (fun h => ⟨?_, ?_⟩) fun h => ?_
 ·show (txL _).length ≤ sizeLine
  rw [show ∀ l, (txL l).length = l.length from fun l => List.length_map _, sizeLine_eq]; lia
 ·have hne : (hl b.cps.toList false false [] []).2 ≠ [] := fun e => by
   rw [e] at h
   exact absurd h (by decide)
  have ex : txL (hl b.cps.toList false false [] []).1 ++ [.str (tx (hl b.cps.toList false false [] []).2)] = ((zBl b.cps.toList).map tx).map .str := by
   rw [e1]; unfold zBl; rw [if_neg hne]; simp [txL]
  rw [ex]
  have hp : (zBl b.cps.toList).length ≤ 1000001 := by unfold zBl; rw [if_neg hne, List.length_append]; simp; lia
  refine zHY w.params [("s", .str b), ("res", .obj 0), ("part", .str (tx (hl b.cps.toList false false [] []).2)), ("escape", .bool e'), ("quote", .bool q')] ⟨trivial, (by show 0 < 2; decide), trivial, trivial, trivial, trivial⟩ _ (by rw [List.length_map]; exact hp) _ ?_
  have : ((zBl b.cps.toList).map tx).map Txt.strip = zBy b.cps.toList := by rw [List.map_map]; rfl
  rw [this]
  exact fin [] _
 ·have he : (hl b.cps.toList false false [] []).2 = [] := by
   have : ((tx (hl b.cps.toList false false [] []).2).length : Int) = 0 := by simpa using h
   rw [zAF] at this
   exact List.eq_nil_of_length_eq_zero (by lia)
  have ex : txL (hl b.cps.toList false false [] []).1 = ((zBl b.cps.toList).map tx).map .str := by
   rw [e1]; unfold zBl; rw [if_pos he]
  rw [ex]
  have hp : (zBl b.cps.toList).length ≤ 1000001 := by unfold zBl; rw [if_pos he]; lia
  refine zHY w.params [("s", .str b), ("res", .obj 0), ("part", .str (tx (hl b.cps.toList false false [] []).2)), ("escape", .bool e'), ("quote", .bool q')] ⟨trivial, (by show 0 < 2; decide), trivial, trivial, trivial, trivial⟩ _ (by rw [List.length_map]; exact hp) _ ?_
  have : ((zBl b.cps.toList).map tx).map Txt.strip = zBy b.cps.toList := by rw [List.map_map]; rfl
  rw [this]
  exact fin [] _
noncomputable def zAU (sep : List Nat) : List (List Nat) → List Nat
 | [] => []
 | [x] => x
 | x :: y :: r => x ++ (sep ++ zAU sep (y :: r))
theorem zGn (sep : Str) (ts : List Str) : Txt.join sep ts = Str.join sep ts := StrLaws.glued_eq_join sep ts
theorem zIi (sep : List Nat) : ∀ l : List (List Nat), Str.join (tx sep) (l.map tx) = tx (zAU sep l)
 | [] => rfl
 | [x] => rfl
 | x :: y :: r => by
  have ih := zIi sep (y :: r)
  show tx x ++ tx sep ++ Str.join (tx sep) ((y :: r).map tx) = _
  rw [ih, zAL, zAL]
  show tx _ = tx (x ++ (sep ++ zAU sep (y :: r)))
  simp
theorem zHT : ∀ l : List (List Nat), zAU [] l = l.flatten
 | [] => rfl
 | [x] => by simp [zAU]
 | x :: y :: r => by
  show x ++ ([] ++ zAU [] (y :: r)) = _
  rw [zHT (y :: r)]; simp
theorem zHU (sep : List Nat) : ∀ l : List (List Nat), (zAU sep l).length ≤ (l.map List.length).sum + l.length * sep.length
 | [] => Nat.zero_le _
 | [x] => by simp [zAU]
 | x :: y :: r => by
  have ih := zHU sep (y :: r)
  show (x ++ (sep ++ zAU sep (y :: r))).length ≤ _
  simp only [List.length_append, List.map_cons, List.sum_cons, List.length_cons] at ih ⊢
  rw [Nat.add_mul] at ih ⊢
  rw [Nat.add_mul]
  lia
theorem zCx {sep : Str} {ts : List Str} (h : (ts.map (·.length)).sum + ts.length * sep.length ≤ 16777216) : JoinOk sep ts = true := by
 have key : ∀ (l : List Str) (n : Nat), l.foldl (fun (acc : Nat) (x : Str) => acc + x.length + sep.length) n = n + ((l.map (·.length)).sum + l.length * sep.length) := by
  intro l
  induction l with
  | nil => intro n; simp
  | cons x r ih =>
   intro n
   rw [List.foldl_cons, ih, List.map_cons, List.sum_cons, List.length_cons, Nat.add_mul]
   lia
 unfold JoinOk
 rw [List.foldl_toArray' (h := rfl), key]
 unfold Builtin.Str.tooLong sizeLine
 simp
 lia
theorem zIa (l : List (List Nat)) : ((l.map tx).map (·.length)).sum = (l.map List.length).sum := by
 rw [List.map_map]
 exact congrArg List.sum (List.map_congr_left fun x _ => zAF x)
theorem zHa {c : Nat} (h : bad c = false) : ws c = false ∧ c ≠ 39 ∧ c ≠ 34 ∧ c ≠ 92 := by
 have e : ∀ d : Nat, bad d = true → c ≠ d := fun d hd q => by
  rw [q, hd] at h; cases h
 have n1 := e 32 (by decide +kernel)
 have n2 := e 9 (by decide +kernel)
 have n3 := e 13 (by decide +kernel)
 have n4 := e 10 (by decide +kernel)
 refine ⟨?_, e 39 (by decide +kernel), e 34 (by decide +kernel), e 92 (by decide +kernel)⟩
 unfold Mine.ws
 simp [n1, n2, n3, n4]
theorem zMn (tail : List Nat) (q : Bool) (e : Str) (i : Int) : ∀ (x t : List Nat), (∀ c ∈ x, bad c = false) → go (x ++ tail) .a q t e i = go tail .a q (t ++ x) e i
 | [], t, _ => by rw [List.nil_append, List.append_nil]
 | c :: r, t, h => by
  obtain ⟨h1, h2, h3, h4⟩ := zHa (h c (.head _))
  rw [List.cons_append]
  conv => lhs; unfold go
  rw [if_neg (by rw [h1]; decide), if_neg h2, if_neg h3, if_neg h4]
  rw [zMn tail q e i r (t ++ [c]) fun d hd => h d (.tail _ hd)]
  rw [List.append_assoc]; rfl
theorem zGY (tail : List Nat) (e : Str) : ∀ (x t : List Nat) (q : Bool) (i : Int), ∃ j, go (repL 39 qm x ++ 39 :: tail) .sq q t e i = go tail .a true (t ++ x) e j
 | [], t, q, i => by
  refine ⟨i, ?_⟩
  show go (39 :: tail) .sq q t e i = _
  conv => lhs; unfold go
  rw [if_pos rfl, List.append_nil]
 | c :: r, t, q, i => by
  by_cases hc : c = 39
  ·subst hc
   have e1 : repL 39 qm (39 :: r) ++ 39 :: tail = 39 :: 34 :: 39 :: 34 :: 39 :: (repL 39 qm r ++ 39 :: tail) := by
    show ((if (39 : Nat) = 39 then qm else [39]) ++ repL 39 qm r) ++ _ = _
    rw [if_pos rfl]; rfl
   rw [e1]
   obtain ⟨j, hj⟩ := zGY tail e r (t ++ [39]) true (i + nl 39)
   refine ⟨j, ?_⟩
   have s1 : go (39 :: 34 :: 39 :: 34 :: 39 :: (repL 39 qm r ++ 39 :: tail)) .sq q t e i = go (repL 39 qm r ++ 39 :: tail) .sq true (t ++ [39]) e (i + nl 39) := by
    simp [go, Mine.ws]
   rw [s1, hj, List.append_assoc]; rfl
  ·have e1 : repL 39 qm (c :: r) ++ 39 :: tail = c :: (repL 39 qm r ++ 39 :: tail) := by
    show ((if c = 39 then qm else [c]) ++ repL 39 qm r) ++ _ = _
    rw [if_neg hc]; rfl
   rw [e1]
   obtain ⟨j, hj⟩ := zGY tail e r (t ++ [c]) true (i + nl c)
   refine ⟨j, ?_⟩
   have s1 : go (c :: (repL 39 qm r ++ 39 :: tail)) .sq q t e i = go (repL 39 qm r ++ 39 :: tail) .sq true (t ++ [c]) e (i + nl c) := by
    conv => lhs; unfold go
    rw [if_neg hc]
   rw [s1, hj, List.append_assoc]; rfl
theorem zRT (tail : List Nat) (e : Str) (x : List Nat) (i : Int) : ∃ j q, (q = true ∨ x ≠ []) ∧ go (zAt x ++ tail) .sp false [] e i = go tail .a q x e j := by
 unfold zAt
 split
 ·rename_i h
  obtain ⟨hne, hall⟩ := h
  cases x with
  | nil => exact absurd rfl hne
  | cons c r =>
   have hg : ∀ d ∈ c :: r, bad d = false := fun d hd => by simpa using List.all_eq_true.mp hall d hd
   obtain ⟨h1, h2, h3, h4⟩ := zHa (hg c (.head _))
   refine ⟨i, false, .inr hne, ?_⟩
   rw [List.cons_append]
   conv => lhs; unfold go
   rw [if_neg (by rw [h1]; decide), if_neg h2, if_neg h3, if_neg h4]
   exact zMn tail false e i r [c] fun d hd => hg d (.tail _ hd)
 ·obtain ⟨j, hj⟩ := zGY tail e x [] false i
  refine ⟨j, true, .inl rfl, ?_⟩
  have e1 : (39 :: (repL 39 qm x ++ [39])) ++ tail = 39 :: (repL 39 qm x ++ 39 :: tail) := by simp
  rw [e1]
  have s1 : go (39 :: (repL 39 qm x ++ 39 :: tail)) .sp false [] e i = go (repL 39 qm x ++ 39 :: tail) .sq false [] e i := by
   conv => lhs; unfold go
   rw [if_neg (by decide), if_pos rfl]
  rw [s1, hj, List.nil_append]
noncomputable def zHM : List (List Nat) → List Nat
 | [] => []
 | [x] => zAt x
 | x :: y :: r => zAt x ++ 32 :: zHM (y :: r)
theorem zRs {t : List Nat} (h : t ≠ []) : Fast.sEq (tx t) "" = false := by
 cases q : Fast.sEq (tx t) "" with
 | false => rfl
 | true =>
  have := congrArg Str.length (zAO q)
  rw [zAF] at this
  exact absurd (List.eq_nil_of_length_eq_zero this) h
theorem zRB (pre : List Nat) (i : Int) (h : pre.length ≤ sizeLine) : LexAll (tx pre) .none i pre.length [] := by
 refine .stop (x := ⟨.none, false, tx [], " ", i, pre.length⟩) trivial trivial ?_ rfl (by rfl)
 exact LexC.off h
theorem zFf : ∀ ws : List (List Nat), Str.join " " (ws.map fun x => tx (zAt x)) = tx (zHM ws)
 | [] => rfl
 | [x] => rfl
 | x :: y :: r => by
  have ih := zFf (y :: r)
  show tx (zAt x) ++ " " ++ Str.join " " ((y :: r).map fun x => tx (zAt x)) = _
  rw [ih]
  have e : (" " : Str) = tx [32] := by rfl
  rw [e, zAL, zAL]
  show tx _ = tx (zAt x ++ 32 :: zHM (y :: r))
  simp
noncomputable def s790 : Stmt := stAt 32 B01
noncomputable def f790 : FnE := ⟨776, 1, ["text"], [], zAG s790, zAB s790, "_law_marked", .ref 775, []⟩
theorem zSj (P : Params) : FnOk (KK P) f790 := FnOk.of (by kernel_rfl) (by kernel_rfl) ⟨_, _, _, _, (by kernel_rfl : (KK P).lookup 776 = some (o790 P)), rfl, rfl, fun _ _ => rfl, rfl, rfl, fun s vs X h => by
 obtain ⟨a, rfl⟩ := len1 h
 exact BindsTo.of_eq (by kernel_rfl)⟩
noncomputable def binL : Expr → Expr
 | .BinOp l _ _ _ => l
 | _ => default
noncomputable def binR : Expr → Expr
 | .BinOp _ _ r _ => r
 | _ => default
noncomputable def arg0 : Expr → Expr
 | .Call _ (a :: _) _ _ => a
 | _ => default
noncomputable def lcIf : Expr → Expr
 | .ListComp _ [⟨_, _, [c], _⟩] _ _ => c
 | _ => default
noncomputable def zMM : Expr := arg0 (binR (binL (rVal (stAt 0 (zAG s790)))))
noncomputable def zPB : List (Str × NameKind) := zAu (lcSc zMM).names
theorem zME (P : Params) (b : Str) (k : Kt) : ev (cfH P) 40 (zAB s790).names (.sts (zAG s790)) { loc := [("text", .str b)], led := [] } k =
   zBQ (zAN zPB (zAm zMM)) none (fun st k => ev (cfH P) 31 zPB (.ex (zBH zMM)) st k) (.str b) (b.cps.toList.map fun c => .str (sgS c)) (.it true (.str b)) 0 1 0 (b.cps.toList.map fun c => .str (sgS c)) ⟨[], [.it true (.str b) 0, .list []]⟩
    (fun stE => zAf [("text", .str b)] 0 1 stE fun v st₁ => zBt st₁ v fun ds => ∃ ts : List Str, ds = ts.map .str ∧ JoinOk "" ts = true ∧ (Txt.join "" ts).length ≤ sizeLine ∧
      (("\"" : Str).length + (Txt.join "" ts).length ≤ sizeLine ∧ (("\"" ++ Txt.join "" ts).length + ("\"" : Str).length ≤ sizeLine ∧ k (.ret (.str ("\"" ++ Txt.join "" ts ++ "\""))) st₁))) := by
  kernel_rfl
theorem zKU (P : Params) (x : Str) (l : List SO) (k : Kt) (D : St → Prop) : zAN zPB (zAm zMM) (.str x) ⟨[], l⟩ (fun st₁ => zCA none st₁ fun c st₂ => ifT c (ev (cfH P) 31 zPB (.ex (zBH zMM)) st₂ k) (D st₂)) =
   ifT (inB x "\"\\") (("\\" : Str).length + x.length ≤ sizeLine ∧ k (.v (.str ("\\" ++ x))) ⟨[("sign", .str x)], l⟩) (k (.v (.str x)) ⟨[("sign", .str x)], l⟩) := by
  kernel_rfl
noncomputable def escS (l : List Nat) : List Nat := l.flatMap fun c => if c = 34 ∨ c = 92 then [92, c] else [c]
noncomputable def zBV (l : List Nat) : List Nat := 34 :: (escS l ++ [34])
theorem zDC : ∀ l : List Nat, (escS l).length ≤ 2 * l.length
 | [] => Nat.le_refl _
 | c :: r => by
  have ih := zDC r
  show ((if c = 34 ∨ c = 92 then [92, c] else [c]) ++ escS r).length ≤ 2 * (r.length + 1)
  rw [List.length_append]
  have : (if c = 34 ∨ c = 92 then [92, c] else [c]).length ≤ 2 := by
   split
   ·exact Nat.le_refl 2
   ·exact Nat.le_succ 1
  lia
theorem zAv (l : List Nat) : (tx l).cps.toList = l := by simp [tx]
theorem zCG {α β : Type} (l : List β) (f : β → α) : (List.range l.length).filterMap (fun i => (l[i]?).map f) = l.map f := by
 induction l with
 | nil => rfl
 | cons c r ih =>
  rw [List.length_cons, List.range_succ_eq_map, List.filterMap_cons, List.filterMap_map]
  simp only [List.getElem?_cons_zero, Option.map_some, List.map_cons]
  congr 1
noncomputable def zMF (svs : List SV) (st : St) (k : Kt) : Prop := on1 svs fun x => onS x fun b => b.length ≤ 1000000 ∧ k (.v (.str (tx (zBV b.cps.toList)))) st
noncomputable def markedSp : SpE := ⟨776, 1, 60, zMF⟩
theorem zGU {svs : List SV} {st : St} {k : Kt} (h : zMF svs st k) : ∃ b, svs = [.str b] ∧ b.length ≤ 1000000 ∧ k (.v (.str (tx (zBV b.cps.toList)))) st := by
 obtain ⟨x, rfl, h⟩ := zAc h
 obtain ⟨b, rfl, h⟩ := zAi h
 exact ⟨_, rfl, h⟩
noncomputable def escC (c : Nat) : List Nat := if c = 34 ∨ c = 92 then [92, c] else [c]
theorem zLX (l : List Nat) (i : Nat) (x : SV) (h : (l.map fun c => SV.str (sgS c))[i]? = some x) : ∃ c, l[i]? = some c ∧ x = .str (sgS c) := by
 rw [List.getElem?_map, Option.map_eq_some_iff] at h
 obtain ⟨c, h1, h2⟩ := h
 exact ⟨c, h1, h2.symm⟩
noncomputable def glue (y : SV) (st : St) (f : Str → Prop) : Prop := zBt st y fun ds => ∃ ts : List Str, ds = ts.map .str ∧ JoinOk "" ts = true ∧ (Txt.join "" ts).length ≤ sizeLine ∧ f (Txt.join "" ts)
theorem zIm {l : List Nat} {f : Nat → List Nat} {st : St} {g : Str → Prop} (hl : (l.flatMap f).length ≤ 4000000) (h : g (tx (l.flatMap f))) : glue (.dat (.list (l.map fun c => .str (tx (f c))))) st g := by
 have e4 : l.map (fun c => tx (f c)) = (l.map f).map tx := by rw [List.map_map]; rfl
 have ej : Txt.join "" ((l.map f).map tx) = tx (l.flatMap f) := by
  rw [zGn]
  have : ("" : Str) = tx [] := by rfl
  rw [this, zIi, zHT, ← List.flatMap_def]
 have e3 : l.map (fun c => PyData.str (tx (f c))) = ((l.map f).map tx).map .str := by rw [List.map_map, List.map_map]; rfl
 show ∃ ts : List Str, l.map (fun c => PyData.str (tx (f c))) = ts.map .str ∧ JoinOk "" ts = true ∧ (Txt.join "" ts).length ≤ sizeLine ∧ g (Txt.join "" ts)
 refine ⟨(l.map f).map tx, e3, zCx ?_, ?_, ?_⟩
 ·rw [zIa]
  have : ("" : Str).length = 0 := by rfl
  rw [this, Nat.mul_zero, Nat.add_zero]
  have : ((l.map f).map List.length).sum = (l.flatMap f).length := by
   rw [List.length_flatMap, List.map_map]; rfl
  rw [this]; lia
 ·rw [ej, zAF, sizeLine_eq]; lia
 ·rw [ej]; exact h
theorem zDI {bnd : SV → St → (St → Prop) → Prop} {elt : St → Kt → Prop} {pre : List SO} (loc : List (Str × SV)) (kk : SV → St → Prop) (l : List Nat) (f : Nat → List Nat) (hpre : ∀ n led, pre.length ≤ n → SosT n led pre pre) (hloc : okF pre.length loc) (hlen : l.length ≤ 1000000)
  (step : ∀ c led (K : Kt) (D : St → Prop), K (.v (.str (tx (f c)))) ⟨[("sign", .str (sgS c))], led⟩ → bnd (.str (sgS c)) ⟨[], led⟩ fun st₁ => zCA none st₁ fun c st₂ => ifT c (elt st₂ K) (D st₂))
  (hk : kk (.dat (.list (l.map fun c => .str (tx (f c))))) ⟨loc, pre⟩) :
  zBQ bnd none elt (.str (tx l)) (l.map fun c => .str (sgS c)) (.it true (.str (tx l))) pre.length (pre.length + 1) 0 (l.map fun c => .str (sgS c)) ⟨[], pre ++ [.it true (.str (tx l)) 0, .list []]⟩ (fun stE => zAf loc pre.length (pre.length + 1) stE kk) := by
 refine zGh (pre := pre) (fl := []) (src := .str (tx l)) (all := l.map fun c => .str (sgS c)) (slot := .it true (.str (tx l))) loc kk (fun i => (l[i]?).map fun c => PyData.str (tx (f c))) hpre trivial hloc (fun _ _ _ _ => .it (.same trivial)) (fun a b => ?_) (by rw [List.length_map, sizeLine_eq]; lia) (fun i x zs K Dd hx hK' hD => ?_) ?_
 ·show some ((tx l).cps.toList.map (fun c => SV.str (sgS c)), SO.it true (.str (tx l))) = _
  rw [zAv]
 ·obtain ⟨c, hc, rfl⟩ := zLX l i x hx
  exact step c _ K Dd (hK' (PyData.str (tx (f c))) (by rw [hc]; rfl) [("sign", .str (sgS c))] [])
 ·rw [List.length_map, zCG]; exact hk
theorem zHJ {w : World} {C : Cf} (hK : C.K = KK w.params) (hC : C.known = true) : SpOk w C markedSp := by
 refine ⟨by rw [hK]; kernel_rfl, ?_⟩
 intro F A ads st s svs vs k Q Rr ok hA hh hd hu h R D hl' T hR
 replace hA : true = true → A.frames = some F.stk := fun _ => hA hC
 obtain ⟨b, rfl, hlen, hk⟩ := zGU h
 have okY : FmOk (cfH w.params) F := zAY hK.symm ok (by first | exact fun _ => rfl | exact fun _ => by assumption | exact fun h => h)
 have d40 : markedSp.d = 60 := rfl
 rw [d40] at hd hu
 refine zBd (e := f790) (n := 40) (led₁ := []) (led₂ := st.led) (zBY (cokH w) 40) (zSj _) okY hA hh (by lia) (by lia) R D hl' rfl trivial (fun x hx => by rw [List.mem_singleton.mp hx]; exact trivial) List.nodup_nil ?_ T hR
 show ev (cfH w.params) 40 (zAB s790).names (.sts (zAG s790)) { loc := [("text", .str b)], led := [] } _
 rw [zME]
 obtain ⟨l, rfl⟩ : ∃ l, b = tx l := ⟨b.cps.toList, by cases b; simp [tx]⟩
 rw [zAF] at hlen
 rw [zAv] at hk ⊢
 refine zDI (pre := []) [("text", .str (tx l))] _ l escC (fun _ _ _ => .nil) ⟨trivial, trivial⟩ hlen (fun c led K Dd hs => ?_) ?_
 ·rw [zKU]
  have e : inB (sgS c) "\"\\" = decide (c ∈ [34, 92]) := zDS c "\"\\"
  rw [e]
  unfold escC at hs
  refine zAk (fun q => ⟨?_, ?_⟩) fun q => ?_
  ·rw [zBU, sizeLine_eq]; decide
  ·have q' : c = 34 ∨ c = 92 := by simpa using of_decide_eq_true q
   rw [if_pos q'] at hs
   rw [zCY, ← zEB, ← zEB, zAL]; exact hs
  ·have q' : ¬ (c = 34 ∨ c = 92) := by simpa using of_decide_eq_false q
   rw [if_neg q', zEB] at hs
   exact hs
 ·have hel := zDC l
  have elen : (tx (escS l)).length = (escS l).length := zAF _
  have q1 : ("\"" : Str).length = 1 := by rfl
  refine zIm (l := l) (f := escC) (g := fun t => ("\"" : Str).length + t.length ≤ sizeLine ∧ (("\"" ++ t).length + ("\"" : Str).length ≤ sizeLine ∧ SubK st [] st.led k (.ret (.str ("\"" ++ t ++ "\""))) ⟨[("text", .str (tx l))], []⟩)) (by show (escS l).length ≤ _; lia) ?_
  rw [show l.flatMap escC = escS l from rfl]
  refine ⟨?_, ?_, ?_⟩
  ·rw [elen, q1, sizeLine_eq]; lia
  ·rw [q1]
   have : ("\"" : Str) = tx [34] := by rfl
   rw [this, zAL, zAF, sizeLine_eq]
   simp; lia
  ·have : ("\"" : Str) = tx [34] := by rfl
   rw [this, zAL, zAL]
   have e5 : [34] ++ escS l ++ [34] = zBV l := by simp [zBV]
   rw [e5]
   exact ⟨_, _, [], .inl rfl, .same trivial, .nil, hk⟩
section
variable {w : World} {C : Cf} {F : Fm} {ads : Wd} {s : Shared} {st : St} {A : Around} {E : Value → Shared → Prop}
theorem zPp {i : Nat} {fs : List (Str × SV)} {u : Value} (ok : FmOk C F) (R : Rep w F ads st s.heap) (d : Den F.B ads (.obj i) u) (hi : st.led[i]? = some (.dic fs)) :
  ∃ a o kvs, u = .ref a ∧ s.heap.get? a = some o ∧ o.IsDictOf (strKind prog w) kvs ∧ KvR F.B ads fs kvs ∧ (a == sysModules) = false := by
 obtain ⟨m, news, lw, pre, ps, post, a, dd, X, h1, h2, h3, h4⟩ := zCq R hi
 obtain ⟨p, hp, rfl⟩ := d
 rw [h2] at hp; cases hp
 obtain ⟨o, kvs, hd, hk, rfl⟩ := h3.inv
 ·have ho := X.nw (a, o) (by rw [h1]; simp)
  refine ⟨a, o, kvs, rfl, ho.1, zHo hd, hk, ?_⟩
  obtain ⟨o1, hs⟩ := ok.G.sm
  refine beq_eq_false_iff_ne.mpr fun e => ?_
  have h0 := ho.2.2
  rw [show (a, o).1 = sysModules from e, hs] at h0
  cases h0
end
set_option maxHeartbeats 200000
section
variable {w : World} {C : Cf} {F : Fm} {ads : Wd} {s : Shared} {st : St} {h h' base : Heap} {e : Addr} {cls : Value} {M : Model} {E : Value → Shared → Prop}
noncomputable def RepB (w : World) (F : Fm) (ads : Wd) (st : St) (h base : Heap) : Prop := ∃ m news lw, RepX w F ads st h m news lw ∧ (∀ p ∈ news ++ ads.fz, base.get? p.1 = some p.2) ∧ F.h₀.StaysIn base
theorem RepB.rep (R : RepB w F ads st h base) : Rep w F ads st h := let ⟨m, n, l, X, _⟩ := R; ⟨m, n, l, X⟩
theorem zBL (ok : FmOk C F) (R : RepB w F ads st h base) (k : base.StaysIn h') (u : h.UpToSlots h') : RepB w F ads st h' base := by
 obtain ⟨m, news, lw, X, hb, h0⟩ := R
 have lowk := ok.low.ups X.ups
 have inlw : ∀ p ∈ lw, p ∈ news ++ (ads.fz ++ lw) := fun p hp => List.mem_append_right _ (List.mem_append_right _ hp)
 obtain ⟨lw', ul, hu⟩ := zKz (h' := h') (lw := lw) fun p hp => u p.1 p.2 (X.nw p (inlw p hp)).1 (lowk.dat p hp)
 have ek : (news ++ (ads.fz ++ lw')).map (·.1) = (news ++ (ads.fz ++ lw)).map (·.1) := by simp only [List.map_append, ul.keys]
 refine ⟨m, news, lw', ⟨⟨u.ns X.fr.ns, fun b o q => k b o (h0 b o q), X.fr.above⟩, fun p hp => ?_, X.loc, X.led, ek ▸ X.nd, X.ups.trans ul⟩, hb, h0⟩
 have hk : p.1 ∈ (news ++ (ads.fz ++ lw)).map (·.1) := ek ▸ List.mem_map_of_mem hp
 obtain ⟨p', hp', ep⟩ := List.mem_map.mp hk
 have z := (X.nw p' hp').2
 rw [ep] at z
 refine ⟨?_, z⟩
 rw [← List.append_assoc] at hp
 rcases List.mem_append.mp hp with q | q
 ·exact k _ _ (hb p q)
 ·exact hu p q
theorem zJN (ok : FmOk C F) (R : Rep w F ads st h) : ∃ keys : List Addr, RepB w F ads st h (hideAll h keys) ∧ h.FunFrames (hideAll h keys) F.stk ∧ ∀ x ∈ keys, ∃ o, h.get? x = some o ∧ ∀ vs, o.data ≠ .fields vs := by
 obtain ⟨m, news, lw, X⟩ := R
 obtain ⟨oL, es, ep, hL, hLd, _⟩ := X.fr.ns
 have lowk := ok.low.ups X.ups
 have inlw : ∀ p ∈ lw, p ∈ news ++ (ads.fz ++ lw) := fun p hp => List.mem_append_right _ (List.mem_append_right _ hp)
 have notF : ∀ vs, oL.data ≠ .fields vs := fun vs q => by rw [hLd] at q; cases q
 have pmA : (news ++ (ads.fz ++ lw)).Perm (lw ++ (news ++ ads.fz)) := by
  rw [← List.append_assoc]; exact List.perm_append_comm
 have ndP := (pmA.map (·.1)).nodup_iff.mp X.nd
 rw [List.map_append] at ndP
 have ndP' := List.nodup_append.mp ndP
 refine ⟨F.L :: lw.map (·.1), ⟨m, news, lw, X, fun p hp => ?_, fun b o q => ?_⟩, zCE fun env he => ?_, fun x hx => ?_⟩
 ·have z := X.nw p (pmA.mem_iff.mpr (List.mem_append_right _ hp))
  refine hideAll_get _ z.1 fun q => ?_
  rcases List.mem_cons.mp q with q | q
  ·exact z.2.1 q
  ·exact ndP'.2.2 _ q _ (List.mem_map_of_mem hp) rfl
 ·refine hideAll_get _ (X.fr.keep b o q) fun hm => ?_
  rcases List.mem_cons.mp hm with rfl | hm
  ·exact absurd (Heap.lt_size q) (Nat.not_lt.mpr X.fr.above)
  ·obtain ⟨p, hp, rfl⟩ := List.mem_map.mp hm
   rw [(X.nw p (inlw p hp)).2.2] at q; cases q
 ·obtain ⟨a1, L', a2, a3⟩ := lowk.env env he
  rcases a3 with rfl | a3
  ·exact ⟨a1, F.L, oL, a2, hideAll_none _ (.head _), hL, notF⟩
  ·obtain ⟨p, hp, rfl⟩ := List.mem_map.mp a3
   exact ⟨a1, p.1, p.2, a2, hideAll_none _ (.tail _ a3), (X.nw p (inlw p hp)).1, lowk.dat p hp⟩
 ·rcases List.mem_cons.mp hx with rfl | hx
  ·exact ⟨oL, hL, notF⟩
  ·obtain ⟨p, hp, rfl⟩ := List.mem_map.mp hx
   exact ⟨p.2, (X.nw p (inlw p hp)).1, lowk.dat p hp⟩
theorem zEo (ok : FmOk C F) {outer : List Env} (hst : F.stk = F.env :: outer) : ∃ L, F.env.frame = some L :=
 let ⟨_, L, a, _⟩ := ok.low.env F.env (by rw [hst]; exact .head _); ⟨L, a⟩
theorem zKR {cls : String} {outer : List Env} {L : Addr} {Q : Unit → Shared → Prop} (hst : F.stk = F.env :: outer) (hf : F.env.frame = some L) (hkn : C.known = true) (ok : FmOk C F) (R : Rep w F ads st h) (hx : Heap.NewExc h s.heap e cls)
  (hQ : ∀ h' base a0, RepB w F ads st h' base → Heap.HeldW base F.stk e (.type cls) a0 L h' → Q () { s with heap := h' }) : wpAny M F.A (noteFrame (.ref e) F.env) Q E s := by
 obtain ⟨keys, RB, fr, _⟩ := zJN ok R
 obtain ⟨ob, t, he, hc, hd⟩ := hx.there
 have hkb : (hideAll h keys).StaysIn s.heap := fun b o q => hx.keeps b o (of_hideAll _ q)
 have hen : (hideAll h keys).get? e = none := by
  cases q : (hideAll h keys).get? e with
  | none => rfl
  | some o => have := of_hideAll _ q; rw [hx.new] at this; cases this
 have fr' : s.heap.FunFrames (hideAll h keys) F.stk := fr.of_keeps fun b o q _ => ⟨o, hx.keeps b o q, rfl⟩
 unfold noteFrame
 simp only [hf]
 refine wpAny_bind (wpAny_field he hd (x := .none) rfl ?_)
 rw [if_neg (by decide)]
 refine wpAny_entryW (base := hideAll h keys) (env := F.env) (outer := outer) (a0 := t) (hst ▸ ok.stack hkn) (hst ▸ fr') hf he hkb hen hd (show 1 < 6 by decide) rfl fun h₁ N => ?_
 obtain ⟨k1, k2, k3, k4⟩ := N
 rw [hc] at k3
 refine hQ h₁ _ t (zBL ok RB k1 ((Heap.UpToSlots.of_keeps hx.keeps).trans k4)) ⟨k1, hen, hst ▸ k2, k3⟩
theorem zCW {l : List Env} {a0 : Value} {L : Addr} {A : Around} {Q : Unit → Shared → Prop} (R : Heap.HeldW base l e cls a0 L s.heap)
  (hQ : ∀ h', Heap.HeldW base l e cls a0 L h' → s.heap.UpToSlots h' → Q () { s with heap := h' }) : wpAny M A (setFlight (.ref e) (some L)) Q E s := by
 obtain ⟨hkb, hen, hl, oe, vs, T, oT, ts, he, hcls, hd, h1, hnT, hTe, hT, hdT, h3⟩ := R
 have hsz3 : 3 < ts.size := (Array.getElem?_eq_some_iff.mp h3).1
 have other : ∀ b, b ≠ T → (s.heap.update T (Obj.mapFields (·.setIfInBounds 3 ((some L).elim Value.none fun f => rawInt f)))).get? b = s.heap.get? b :=
  fun b hb => Heap.get?_update_other _ _ (Ne.symm hb)
 have noRecord : ∀ b o, s.heap.get? b = some o → (∀ vs, o.data ≠ .fields vs) → b ≠ T := fun b o hb hnf q => by
  rw [q, hT] at hb; injection hb with hb; subst hb; exact hnf ts hdT
 unfold setFlight
 refine wpAny_bind (wpAny_field he hd h1 ?_)
 rw [if_pos (show (Value.ref T != Value.none) = true from by simp)]
 refine wpAny_setField hT hdT hsz3 (hQ _ ⟨fun b o hbo => (other b fun q => by rw [q, hnT] at hbo; cases hbo).trans (hkb b o hbo), hen,
  hl.of_keeps fun b o hb hnf => ⟨o, (other b (noRecord b o hb hnf)).trans hb, rfl⟩, ?_⟩ fun b o hb hnf => ⟨o.slots, (other b (noRecord b o hb hnf)).trans hb⟩)
 exact ⟨oe, vs, T, _, _, (other e (Ne.symm hTe)).trans he, hcls, hd, h1, hnT, hTe, Heap.get?_update_self _ hT (Obj.isFreed_of_fields (Obj.data_mapFields hdT _)), Obj.data_mapFields hdT _, by simp [hsz3]⟩
theorem zNE {l : List Env} {a0 : Value} {L : Addr} {A : Around} {env : Env} {E' : Value → Shared → Prop} (hf : env.frame = some L) (R : Heap.HeldW base l e cls a0 L s.heap)
  (hQ : ∀ h', Heap.HeldW base l e cls a0 L h' → s.heap.UpToSlots h' → E' (.ref e) { s with heap := h' }) : cameBackBy M A env E' (.ref e) s := by
 obtain ⟨oe, vs, T, oT, ts, he, hcls, hd, h1, _⟩ := id R.2.2.2
 unfold cameBackBy
 refine wpAny_bind (wpAny_field he hd h1 ?_)
 rw [if_neg (show ¬ (Value.ref T == Value.none) = true from by simp)]
 first
  | (rw [hf]; exact zCW R hQ)
  | (refine wpAny_bind (wpAny_pure ?_); rw [hf]; exact zCW R hQ)
theorem zKX {outer : List Env} {env : Env} {a0 : Value} {L : Addr} {A : Around} {Q : Unit → Shared → Prop} (hf : env.frame = some L) (R : Heap.HeldW base (env :: outer) e cls a0 L s.heap)
  (hQ : ∀ h', Heap.FlyingW base outer e cls a0 h' → s.heap.UpToSlots h' → Q () { s with heap := h' }) : wpAny M A (leaving env (.ref e)) Q E s := by
 unfold leaving
 refine wpAny_bind (wpAny_noteFrame_againW hf R.2.2.2 ?_)
 refine wpAny_landsW R fun h' hfl u => ?_
 obtain ⟨k1, k2, ⟨_, _, k3⟩, k4⟩ := hfl
 exact hQ h' ⟨k1, k2, k3, k4⟩ u
end
section
variable {w : World} {C : Cf} {F : Fm} {ads : Wd} {s : Shared} {st : St} {h h' base : Heap} {e : Addr} {cls : Value} {M : Model} {E : Value → Shared → Prop}
noncomputable def zRq (w : World) (F : Fm) (W : Wd) (cls : Value) (x : Value) (s : Shared) : Prop := ∃ e z base a0 L, x = .ref e ∧ F.env.frame = some L ∧ RepB w F (wa W (⟨[], z⟩ : Wd)) ⟨[], []⟩ s.heap base ∧ Heap.HeldW base F.stk e cls a0 L s.heap
noncomputable def FlyX (w : World) (F : Fm) (ads : Wd) (st : St) (cls : Value) (x : Value) (s : Shared) : Prop := ∃ e z base a0, x = .ref e ∧ RepB w F (wa ads (⟨[], z⟩ : Wd)) st s.heap base ∧ Heap.FlyingW base F.stk e cls a0 s.heap
theorem zLC {W more : Wd} {st : St} {h : Heap} (ok : FmOk C F) (hW : W.ads = []) (R : Rep w F (wa W more) st h) : ∃ z, Rep w F (wa W (⟨[], z⟩ : Wd)) ⟨[], []⟩ h :=
 zCm ok R ⟨(fun x y q => nomatch q), by rw [hW]; exact .nil⟩
theorem zMG {cl : String} {outer : List Env} {W more : Wd} {st : St} {h : Heap} {s' : Shared} {e : Addr} {E' : Value → Shared → Prop} (hst : F.stk = F.env :: outer) (hkn : C.known = true) (ok : FmOk C F) (hW : W.ads = []) (R : Rep w F (wa W more) st h) (hx : Heap.NewExc h s'.heap e cl)
  (hQ : ∀ h', zRq w F W (.type cl) (.ref e) { s' with heap := h' } → E' (.ref e) { s' with heap := h' }) : notedBy M F.A F.env (fun x s' => cameBackBy M F.A F.env E' x s') (.ref e) s' := by
 obtain ⟨L, hf⟩ := zEo ok hst
 obtain ⟨z, R'⟩ := zLC ok hW R
 refine zKR hst hf hkn ok R' hx fun h₁ base a0 RB HH => ?_
 exact zNE hf (s := { s' with heap := h₁ }) HH fun h₂ H2 u => hQ h₂ ⟨e, z, base, a0, L, rfl, hf, zBL ok RB H2.1 u, H2⟩
theorem zOn {svs : List SV} {vs : List Value} {e' : FnE} {A : Around} {Rr : Result → Shared → Prop} (fo : FnOk C.K e') (ok : FmOk C F) (hkn : C.known = true) (hA : A.frames = some F.stk) (hh : A.handled = none) (hd : A.depth < recursionLimit)
  (R : Rep w F ads st s.heap) (D : DenL F.B ads svs vs) (hlen : vs.length = e'.na) (hov : ∀ x ∈ svs, okV 0 x) (hcn : e'.cells.Nodup)
  (body : ∀ (F' : Fm) (W Wc : Wd) (h₁ : Heap) (t : Nat), FmOk C F' → F'.A = A.deeper F'.env → F'.sc = e'.scope → F'.stk = F'.env :: F.stk → W.ads = [] → Rep w F' (wa W Wc) (zBu e'.cells (zipS e'.names svs ++ zBh e'.more) []) h₁ →
   wpAny (model prog w) F'.A (execs e'.body F'.env) (fun _ _ => False) (fun x s' => zRq w F' W cls x s' ∧ NxB F'.quiet { s with heap := h₁, toks := t } s') { s with heap := h₁, toks := t })
  (hR : ∀ x s', FlyX w F ads st cls x s' → Nx F s s' → Rr (.error x) s') : codeAny (model prog w) A (.call (.ref e'.fa) ⟨vs, []⟩) Rr s := by
 refine zDD (led₁ := []) (led₂ := st.led) fo ok (fun _ => hA) hh hd R D hlen rfl trivial hov hcn fun F' W Wc h₁ t ok' eA eS eB eT eZ eL R' back bv => ?_
 have hW : W.ads = [] := List.eq_nil_of_length_eq_zero eL
 refine wpAny_mono (body F' W Wc h₁ t ok' eA eS eT.1 hW R') (fun _ _ q => q.elim) ?_
 rintro x s' ⟨⟨e, z, base, a0, L, rfl, hf, RB, HH⟩, nx⟩
 refine zKX hf (eT.1 ▸ HH) fun h₂ fl u => ?_
 have RB2 := zBL ok' RB fl.1 u
 obtain ⟨k1, k2, k3, oe, vs', T, oT, ts, he, hc, hd', h1, hnT, hTe, hT, hdT, h3⟩ := id fl
 have nof : ∀ b o, h₂.get? b = some o → (∀ vs, o.data ≠ .fields vs) → b ∉ [e, T] := fun b o q n m => by
  rcases List.mem_cons.mp m with rfl | m
  ·rw [he] at q; cases q; exact n _ hd'
  ·rw [List.mem_singleton.mp m, hT] at q; cases q; exact n _ hdT
 have Rh : Rep w F' (wa W (⟨[], z⟩ : Wd)) ⟨[], []⟩ (hideAll h₂ [e, T]) := (zBL ok' RB2 (h' := hideAll h₂ [e, T]) (fun b o q => hideAll_get _ (k1 b o q) fun m => by
   rcases List.mem_cons.mp m with rfl | m
   ·rw [k2] at q; cases q
   ·rw [List.mem_singleton.mp m, hnT] at q; cases q) fun b o q n => ⟨o.slots, hideAll_get _ q (nof b o q n)⟩).rep
 obtain ⟨keys, RB3, fr, _⟩ := zJN ok (back z [] [] _ Rh)
 have st3 : (hideAll (hideAll h₂ [e, T]) keys).StaysIn h₂ := fun b o q => of_hideAll _ (of_hideAll _ q)
 have hid : ∀ b, b ∈ [e, T] → (hideAll (hideAll h₂ [e, T]) keys).get? b = none := fun b m => by
  cases q : (hideAll (hideAll h₂ [e, T]) keys).get? b with
  | none => rfl
  | some o => have := of_hideAll _ q; rw [hideAll_none _ m] at this; cases this
 refine hR _ _ ⟨e, z, _, a0, rfl, zBL ok RB3 st3 (Heap.UpToSlots.of_keeps fun b o q => of_hideAll _ q), st3, hid _ (.head _), fr.of_keeps fun b o q _ => ⟨o, of_hideAll _ q, rfl⟩, ?_⟩ ?_
 ·exact ⟨oe, vs', T, oT, ts, he, hc, hd', h1, hid _ (.tail _ (.head _)), hTe, hT, hdT, h3⟩
 ·exact ((Nx.mk' s h₁ t).trans (show NxB F.quiet _ s' by rw [← eT.2.1]; exact nx)).trans (Nx.of_gens rfl rfl rfl)
end
section
variable {w : World} {C : Cf} {F : Fm} {ads : Wd} {s : Shared} {st : St} {A : Around} {E : Value → Shared → Prop}
theorem zJh {t : Addr} {v : Value} {targets : List (Bool × (Value → Sem Unit))} {Q : Unit → Shared → Prop} (hh : A.handled = none) (ht : s.heap.IsList t #[v]) (hn : targets.length = 2) (hstar : targets.findIdx? (·.1) = none)
  (hE : ∀ h₂ h' tk e, s.heap.StaysIn h₂ → Heap.NewExc h₂ h' e "ValueError" → E (.ref e) { s with heap := h', toks := tk }) : wpAny (model prog w) A (unpack (.ref t) targets) Q E s := by
 have hlt : t ≠ s.heap.objs.size := by obtain ⟨o, ho, _⟩ := ht; exact Nat.ne_of_lt (Heap.lt_size ho)
 unfold unpack
 rw [hn, hstar]
 refine wpAny_bind (wpAny_holding ?_)
 unfold unpackItems
 refine wpAny_bind ?_
 unfold notIterableAtAll
 refine wpAny_bind (wpAny_specialOf ht.typeIs slot_list_iter.lookup ?_)
 refine wpAny_pure ?_
 simp only [Bool.false_eq_true, if_false]
 refine wpAny_bind (wpAny_holding (wpAny_pyIter_list ht ?_))
 refine wpAny_bind (wpAny_holding ?_)
 show wpAny _ _ (pyNext (.ref s.heap.objs.size) >>= _) _ E _
 refine wpAny_bind (wpAny_pyNext_list_item (i := 0) ⟨_, Heap.get?_push_size _ rfl, rfl, rfl⟩ (ht.push _) (x := v) rfl fun h₁ hit₁ hs₁ => ?_)
 have ht₁ : h₁.IsList t #[v] := (ht.push _).extBut hs₁.extBut hlt
 refine wpAny_bind (wpAny_holding ?_)
 show wpAny _ _ (pyNext (.ref s.heap.objs.size) >>= _) _ E _
 refine wpAny_bind (wpAny_pyNext_list_end hh hit₁ ht₁ rfl fun h₂ he₂ => ?_)
 refine wpAny_pure (wpAny_pure ?_)
 have grow : s.heap.StaysIn h₂ := fun b o e => by
  have nb := Nat.ne_of_lt (Heap.lt_size e)
  exact he₂ b o nb (hs₁.extBut b o nb (Heap.get?_push_of_some _ e))
 rw [if_pos (show [v].length < 2 from (show 1 < 2 by decide))]
 have go : ∀ h' tk e, Heap.NewExc h₂ h' e "ValueError" → E (.ref e) { s with heap := h', toks := tk } := fun h' tk e q => hE h₂ h' tk e grow q
 exact wpAny_bind (wpAny_rule (wpAny_bind (wpAny_raiseErrorMade plainExc_ValueError hh go (of_decide_eq_true (by kernel_rfl)))))
noncomputable def forR (bnd : SV → St → (St → Prop) → Prop) (body : St → Kt → Prop) (rs : St → Prop) (v : SV) (all : List SV) (slot : Nat → SO) (p : Nat) : Nat → List SV → St → Prop
 | _, [], _ => False
 | j, x :: xs, st => st.led[p]? = some (slot j) ∧ srcT st v = some (all, slot) ∧ bnd x { st with led := st.led.set p (slot (j + 1)) } fun st₁ => rs st₁ ∨ body st₁ fun r st₂ => match r with
  | .next => ∃ st₃, Trim st.led.length st₂ st₃ ∧ forR bnd body rs v all slot p (j + 1) xs st₃
  | _ => False
theorem zKf {tgt : Expr} {body : List Stmt} {I : Addr} {bd : St → Kt → Prop} {rs : St → Prop} {v : SV} {all : List SV} {slot : Nat → SO} {p : Nat} {R : Result → Shared → Prop} {s₀ : Shared} (ok : FmOk C F)
  (hb : ∀ (E' : Value → Shared → Prop) (st : St) (k' : Kt) (ads : Wd) (s : Shared) (Q' : CR → Shared → Prop), bd st k' → Rep w F ads st s.heap → Then w F ads s k' Q' → wpAny (model prog w) F.A (execs body F.env) (fun f s' => Q' (.fl f) s') E' s)
  (hrs : ∀ (st : St) (m : Wd) (s : Shared), rs st → Rep w F (wa ads m) st s.heap → Nx F s₀ s → wpAny (model prog w) F.A (execs body F.env) (fun _ _ => False) (notedBy (model prog w) F.A F.env fun e s' => R (.error e) s') s) :
  ∀ (xs : List SV) (j : Nat) (st : St) (m : Wd) (s : Shared), forR (zAN F.sc.names tgt) bd rs v all slot p j xs st → all.drop j = xs → Rep w F (wa ads m) st s.heap → Den F.B (wa ads m) (.obj p) (.ref I) → Nx F s₀ s →
   codeAny (model prog w) F.A (.forLoop tgt (.ref I) body [] F.env) R s := by
 intro xs
 induction xs with
 | nil => intro j st m s h; exact h.elim
 | cons x xs ih =>
  intro j st m s h hd Rp dI nx
  obtain ⟨h1, h2, h3⟩ := h
  obtain ⟨e1, e2, e3⟩ := zGF h2 hd
  have hplt : p < st.led.length := (List.getElem?_eq_some_iff.mp h1).1
  have hpl : st.led.length = (wa ads m).ads.length := zBI Rp
  refine zGi (zEi ok Rp dI h1 h2 e1 fun s₁ u R₁ x₁ du => ?_)
  have hp1 : (st.led.set p (slot (j + 1)))[p]? = some (slot (j + 1)) := by rw [List.getElem?_set_self hplt]
  refine zDQ (v := v) (st := { st with led := st.led.set p (slot (j + 1)) }) ok R₁ dI hp1 (zGE h1 h2) e3 du ?_
  refine zCS ok R₁ du h3 fun st₂ s₂ h₂ R₂ x₂ => ?_
  rcases h₂ with h₂ | h₂
  ·exact wpAny_mono (hrs st₂ m s₂ h₂ R₂ ((nx.trans x₁).trans x₂)) (fun _ _ q => q.elim) fun _ _ q => q
  ·refine hb _ st₂ _ (wa ads m) s₂ (fun c s' => match c with
    | .fl f => match f with
     | .next | .cont => codeAny (model prog w) F.A (.forLoop tgt (.ref I) body [] F.env) R s'
     | .brk => R (.ok .next) s'
     | .ret v => R (.ok (.ret v)) s'
    | _ => False) h₂ R₂ ?_
   intro r st₃ m' c s₃ h₃ R₃ x₃ d₃
   cases r with
   | next =>
    obtain ⟨st₄, tr, h₄⟩ := h₃
    rw [hpl] at tr
    obtain ⟨z, R₄⟩ := zCm ok R₃ tr
    have nxt := ih (j + 1) st₄ (wa m (⟨[], z⟩ : Wd)) s₃ h₄ e2 (by rw [← Wd.append_assoc]; exact R₄) (by rw [← Wd.append_assoc]; exact dI.mono) (((nx.trans x₁).trans x₂).trans x₃)
    cases c with
    | fl f => cases f <;> first | exact nxt | exact d₃.elim
    | _ => exact d₃.elim
   | _ => exact h₃.elim
end
set_option maxHeartbeats 1000000
noncomputable def s766 : Stmt := stAt 4 B01
noncomputable def f766 : FnE := ⟨51, 1, ["l"], [], zAG s766, zAB s766, "parse_keqv_list", .ref 50, []⟩
theorem zPh (P : Params) : FnOk (KK P) f766 := FnOk.of (by kernel_rfl) (by kernel_rfl) ⟨_, _, _, _, (by kernel_rfl : (KK P).lookup 51 = some (o766 P)), rfl, rfl, fun _ _ => rfl, rfl, rfl, fun s vs X h => by
 obtain ⟨a, rfl⟩ := len1 h
 exact BindsTo.of_eq (by kernel_rfl)⟩
noncomputable def zAy : List (Str × NameKind) := (zAB s766).names
noncomputable def fr766 : Stmt := stAt 1 (zAG s766)
noncomputable def tg766 : List Expr := match stAt 0 (zAT fr766) with
 | .Assign [.Tuple es _ _] _ _ => es
 | _ => []
noncomputable abbrev cfKv (P : Params) : Cf where
 K := KK P
 globs := []
 fns := [f766]
 cls := []
theorem zPA (w : World) : CfOk w (cfKv w.params) := ⟨zAA ⟨zPh _, by kernel_rfl, zAP (by kernel_rfl)⟩ zAD, zAD, (fun x v h => nomatch h), zAD, zAD, zAD⟩
theorem zMQ (P : Params) (ds : List PyData) (k : Kt) : ev (cfKv P) 40 zAy (.sts (zAG s766)) { loc := [("l", .dat (.list ds))], led := [] } k =
   forE (zAN zAy (zAs fr766)) (fun st k => ev (cfKv P) 37 zAy (.sts (zAT fr766)) st k) (.dat (.list ds)) (ds.map svOf) (.it true (.dat (.list ds))) 1 0 (ds.map svOf)
     ⟨[("l", .dat (.list ds)), ("parsed", .obj 0)], [.dic [], .it true (.dat (.list ds)) 0]⟩ (zDH (fun st k => ev (cfKv P) 38 zAy (.sts ((zAG s766).drop 2)) st k) k) := by
  kernel_rfl
theorem zOZ (P : Params) (d : SV) (l : List SO) (k : Kt) : ev (cfKv P) 38 zAy (.sts ((zAG s766).drop 2)) ⟨[("l", d), ("parsed", .obj 0)], l⟩ k = k (.ret (.obj 0)) ⟨[("l", d), ("parsed", .obj 0)], l⟩ := by
 kernel_rfl
theorem zEe (d : SV) (x : Str) (l : List SO) (K : St → Prop) : zAN zAy (zAs fr766) (.str x) ⟨[("l", d), ("parsed", .obj 0)], l⟩ K = K ⟨[("l", d), ("parsed", .obj 0), ("elt", .str x)], l⟩ := by
 kernel_rfl
theorem zKZ (P : Params) (d : SV) (x : Str) (l : List SO) (k : Kt) : ev (cfKv P) 37 zAy (.sts (zAT fr766)) ⟨[("l", d), ("parsed", .obj 0), ("elt", .str x)], l⟩ k =
   (((("=" : Str).length == 0) = false) ∧ (decide ((1 : Int) < -(2 ^ 63 : Int)) || decide ((1 : Int) ≥ 2 ^ 63)) = false ∧ x.length + 2 ≤ sizeLine ∧ (Txt.splitMax x "=" 1).length ≤ sizeLine ∧
     zAN zAy (.Tuple tg766 0 default) (.dat (.list ((Txt.splitMax x "=" 1).map .str))) ⟨[("l", d), ("parsed", .obj 0), ("elt", .str x)], l⟩ fun st₂ => ev (cfKv P) 36 zAy (.sts ((zAT fr766).drop 1)) st₂ k) := by
  kernel_rfl
theorem zBT : tg766.length = 2 ∧ ∀ (a b : SV) (st : St) (k : St → Prop), zBn zAy tg766 [a, b] st k = k { st with loc := put "v" b (put "k" a st.loc) } := ⟨by kernel_rfl, fun a b st k => by kernel_rfl⟩
theorem zMO (P : Params) (d : SV) (x key v : Str) (fs : List (Str × SV)) (it : SO) (k : Kt) : ev (cfKv P) 36 zAy (.sts ((zAT fr766).drop 1)) ⟨[("l", d), ("parsed", .obj 0), ("elt", .str x), ("k", .str key), ("v", .str v)], [.dic fs, it]⟩ k =
   (-(v.length : Int) ≤ 0 ∧ (0 : Int) < v.length ∧
     ifT (Fast.sEq (Txt.item v 0) "\"") (-(v.length : Int) ≤ -1 ∧ (-1 : Int) < v.length ∧ ifT (Fast.sEq (Txt.item v (-1)) "\"")
         (fs.length ≤ sizeLine ∧ k .next ⟨[("l", d), ("parsed", .obj 0), ("elt", .str x), ("k", .str key), ("v", .str (Txt.slice v (some 1) (some (-1))))], [.dic (put key (.str (Txt.slice v (some 1) (some (-1)))) fs), it]⟩)
         (fs.length ≤ sizeLine ∧ k .next ⟨[("l", d), ("parsed", .obj 0), ("elt", .str x), ("k", .str key), ("v", .str v)], [.dic (put key (.str v) fs), it]⟩))
       (fs.length ≤ sizeLine ∧ k .next ⟨[("l", d), ("parsed", .obj 0), ("elt", .str x), ("k", .str key), ("v", .str v)], [.dic (put key (.str v) fs), it]⟩)) := by
  kernel_rfl
noncomputable def as766 : Stmt := stAt 0 (zAT fr766)
noncomputable def if766 : Stmt := stAt 1 (zAT fr766)
noncomputable def asV : Stmt → Expr
 | .Assign _ v _ => v
 | _ => default
noncomputable def sTg : Stmt → List Expr
 | .Assign t _ _ => t
 | _ => []
noncomputable def eK : Expr → Nat
 | .Tuple _ k _ => k
 | _ => 0
noncomputable def zTv : Stmt → Expr
 | .For _ i _ _ _ => i
 | _ => default
noncomputable def kid0 (l : List Expr) : Expr := (l[0]?).getD default
theorem zFe : ∃ p0 a1 p1 p2 p3 p4 p5 p6 p7 rest, zAG s766 = [.Assign [.Name "parsed" p0] a1 p1, .For (zAs fr766) (.Name "l" p2) (zAT fr766) [] p3, p4] ∧
  zAT fr766 = .Assign [.Tuple tg766 p5 p6] (asV as766) p7 :: if766 :: rest :=
 ⟨(kid0 (sTg (stAt 0 (zAG s766)))).pos, asV (stAt 0 (zAG s766)), (stAt 0 (zAG s766)).pos, (zTv fr766).pos, fr766.pos, stAt 2 (zAG s766), eK (kid0 (sTg as766)), (kid0 (sTg as766)).pos, as766.pos, (zAT fr766).drop 2, by kernel_rfl, by kernel_rfl⟩
noncomputable def unq (v : Str) : Str := match Fast.sEq (Txt.item v 0) "\"" with
 | true => match Fast.sEq (Txt.item v (-1)) "\"" with
  | true => Txt.slice v (some 1) (some (-1))
  | false => v
 | false => v
inductive KvOk : List Str → List (Str × Str) → Prop
 | nil : KvOk [] []
 | cons {e k v : Str} {es : List Str} {kvs : List (Str × Str)} : Txt.splitMax e "=" 1 = [k, v] → v.length ≠ 0 → e.length ≤ 1000000 → v.length ≤ 1000000 → k.length ≤ 1000000 → KvOk es kvs → KvOk (e :: es) ((k, v) :: kvs)
noncomputable def dV (fs : List (Str × Str)) : List (Str × SV) := fs.map fun p => (p.1, .str p.2)
noncomputable def dput : List (Str × Str) → List (Str × Str) → List (Str × Str)
 | [], fs => fs
 | (k, v) :: r, fs => dput r (put k (unq v) fs)
theorem zPV (k v : Str) : ∀ fs : List (Str × Str), put k (.str v) (dV fs) = dV (put k v fs)
 | [] => rfl
 | (y, a) :: r => by
  show put k (.str v) ((y, .str a) :: dV r) = _
  unfold put
  cases Fast.sEq k y with
  | true => rfl
  | false =>
   show (y, SV.str a) :: put k (.str v) (dV r) = (y, SV.str a) :: dV (put k v r)
   rw [zPV k v r]
theorem zDK {α : Type} (k : Str) (v : α) : ∀ fs : List (Str × α), (put k v fs).length ≤ fs.length + 1
 | [] => Nat.le_refl _
 | (y, a) :: r => by
  unfold put
  cases Fast.sEq k y with
  | true => exact Nat.le_succ _
  | false =>
   show (put k v r).length + 1 ≤ r.length + 1 + 1
   have := zDK k v r
   omega
theorem zMr (n : Nat) (led : List SO) : ∀ fs : List (Str × Str), FldT n led (dV fs) (dV fs)
 | [] => .nil
 | (k, v) :: r => .cons (.same trivial) (zMr n led r)
theorem zEG (l : List Str) : (l.map PyData.str).map svOf = l.map .str := by
 rw [List.map_map]; rfl
noncomputable abbrev kvSt (ds : List PyData) (x : Str) (fs : List (Str × SV)) (it : SO) : St := ⟨[("l", .dat (.list ds)), ("parsed", .obj 0), ("elt", .str x)], [.dic fs, it]⟩
theorem zHS {P : Params} {ds : List PyData} {e key v : Str} {fs : List (Str × Str)} {it : SO} {K : Kt} (hs : Txt.splitMax e "=" 1 = [key, v]) (hv : v.length ≠ 0) (he : e.length ≤ 1000000) (hl : fs.length ≤ 1000001)
  (h : K .next ⟨[("l", .dat (.list ds)), ("parsed", .obj 0), ("elt", .str e), ("k", .str key), ("v", .str (unq v))], [.dic (dV (put key (unq v) fs)), it]⟩) : ev (cfKv P) 37 zAy (.sts (zAT fr766)) (kvSt ds e (dV fs) it) K := by
 rw [zKZ, hs]
 refine ⟨rfl, rfl, by rw [sizeLine_eq]; lia, by rw [sizeLine_eq]; show 2 ≤ 16777216; decide, true, [.str key, .str v], rfl, zBT.1.symm, ?_⟩
 rw [zBT.2]
 show ev (cfKv P) 36 zAy (.sts ((zAT fr766).drop 1)) ⟨[("l", .dat (.list ds)), ("parsed", .obj 0), ("elt", .str e), ("k", .str key), ("v", .str v)], [.dic (dV fs), it]⟩ _
 rw [zMO]
 rw [← zPV] at h
 have hsz : (dV fs).length ≤ sizeLine := by rw [show (dV fs).length = fs.length from List.length_map _, sizeLine_eq]; lia
 unfold unq at h
 refine ⟨by lia, by lia, zAk (fun q => ⟨by lia, by lia, zAk (fun q2 => ⟨hsz, ?_⟩) fun q2 => ⟨hsz, ?_⟩⟩) fun q => ⟨hsz, ?_⟩⟩
 ·rw [q, q2] at h; exact h
 ·rw [q, q2] at h; exact h
 ·rw [q] at h; exact h
theorem zHR (ds : List PyData) (e k v : Str) (fs : List (Str × Str)) (j : Nat) : Trim 2 ⟨[("l", .dat (.list ds)), ("parsed", .obj 0), ("elt", .str e), ("k", .str k), ("v", .str v)], [.dic (dV fs), .it true (.dat (.list ds)) j]⟩ ⟨[("l", .dat (.list ds)), ("parsed", .obj 0)], [.dic (dV fs), .it true (.dat (.list ds)) j]⟩ :=
 zCJ (n := 2) (loc := [("l", .dat (.list ds)), ("parsed", .obj 0)]) (more := [("elt", .str e), ("k", .str k), ("v", .str v)]) ⟨trivial, (by show 0 < 2; decide), trivial⟩ (.cons (.dic (zMr 2 _ _)) (.cons (.it (.same trivial)) .nil))
theorem zMP (P : Params) (ds : List PyData) (k : Kt) : ∀ (elts : List Str) (kvs : List (Str × Str)) (j : Nat) (fs : List (Str × Str)), KvOk elts kvs → fs.length + elts.length ≤ 1000001 →
  k .next ⟨[("l", .dat (.list ds)), ("parsed", .obj 0)], [.dic (dV (dput kvs fs)), .gone]⟩ →
  forE (zAN zAy (zAs fr766)) (fun st k => ev (cfKv P) 37 zAy (.sts (zAT fr766)) st k) (.dat (.list ds)) (ds.map svOf) (.it true (.dat (.list ds))) 1 j (elts.map .str)
   ⟨[("l", .dat (.list ds)), ("parsed", .obj 0)], [.dic (dV fs), .it true (.dat (.list ds)) j]⟩ k := by
 intro elts
 induction elts with
 | nil =>
  intro kvs j fs h hl hk
  cases h
  exact ⟨rfl, rfl, hk⟩
 | cons e r ih =>
  intro kvs j fs h hl hk
  cases h with
  | cons hs hv he hv2 hk2 hr =>
   rename_i key v kvs
   rw [List.length_cons] at hl
   have pl := zDK key (unq v) fs
   refine ⟨rfl, rfl, ?_⟩
   show zAN zAy (zAs fr766) (.str e) ⟨[("l", .dat (.list ds)), ("parsed", .obj 0)], [.dic (dV fs), .it true (.dat (.list ds)) (j + 1)]⟩ _
   rw [zEe]
   exact zHS hs hv he (by lia) ⟨_, zHR ds e key (unq v) _ _, ih kvs (j + 1) (put key (unq v) fs) hr (by lia) hk⟩
noncomputable def zRK (svs : List SV) (st : St) (k : Kt) : Prop := on1 svs fun x => onD x fun d => onLs d fun ds => onNl st.led (∃ elts kvs, ds = elts.map .str ∧ KvOk elts kvs ∧ elts.length ≤ 1000001 ∧ k (.v (.obj 0)) { st with led := [.dic (dV (dput kvs [])), .gone] })
noncomputable def keqvSp : SpE := ⟨51, 1, 60, zRK⟩
theorem zIe {svs : List SV} {st : St} {k : Kt} (h : zRK svs st k) : ∃ elts kvs, svs = [.dat (.list (elts.map .str))] ∧ st.led = [] ∧ KvOk elts kvs ∧ elts.length ≤ 1000001 ∧ k (.v (.obj 0)) { st with led := [.dic (dV (dput kvs [])), .gone] } := by
 obtain ⟨x, rfl, h⟩ := zAc h
 obtain ⟨d, rfl, h⟩ := zCQ h
 obtain ⟨ds, rfl, h⟩ := zCt h
 obtain ⟨hl, elts, kvs, rfl, a, b, c⟩ := zHH h
 exact ⟨elts, kvs, rfl, hl, a, b, c⟩
theorem zRI {w : World} {C : Cf} (hK : C.K = KK w.params) (hC : C.known = true) : SpOk w C keqvSp := by
 refine ⟨by rw [hK]; kernel_rfl, ?_⟩
 intro F A ads st s svs vs k Q Rr ok hA hh hd hu h R D hl' T hR
 replace hA : true = true → A.frames = some F.stk := fun _ => hA hC
 obtain ⟨elts, kvs, rfl, hled, hkv, hlen, hk⟩ := zIe h
 have okY : FmOk (cfKv w.params) F := zAY hK.symm ok (by first | exact fun _ => rfl | exact fun _ => by assumption | exact fun h => h)
 have d40 : keqvSp.d = 60 := rfl
 rw [d40] at hd hu
 refine zCH (e := f766) (n := 40) (zBY (zPA w) 40) (zPA w) okY hA hh (by lia) (by lia) (by lia) R D (by kernel_rfl) ?_ T hR
 rw [hled]
 show ev (cfKv w.params) 40 zAy (.sts (zAG s766)) { loc := [("l", .dat (.list (elts.map .str)))], led := [] } _
 rw [zMQ]
 rw [zEG]
 have := zMP w.params (elts.map .str) (zDH (fun st k => ev (cfKv w.params) 38 zAy (.sts ((zAG s766).drop 2)) st k) (zNH st k)) elts kvs 0 [] hkv (by simpa using hlen) (by
  rw [zBS, zOZ]
  exact hk)
 rw [zEG] at this
 exact this
inductive BadE : Str → String → Prop
 | few {e k : Str} : Txt.splitMax e "=" 1 = [k] → e.length ≤ 1000000 → BadE e "ValueError"
 | none {e k : Str} : Txt.splitMax e "=" 1 = [k, ""] → e.length ≤ 1000000 → BadE e "IndexError"
noncomputable def zRp (elts : List Str) (cl : String) : Prop := ∃ good kvs e rest, elts = good ++ e :: rest ∧ KvOk good kvs ∧ BadE e cl ∧ elts.length ≤ 1000001
theorem zOX (P : Params) (ds : List PyData) (x : Str) (fs : List (Str × SV)) (it : SO) (K : SV → St → Prop) : ev (cfKv P) 35 zAy (.ex (asV as766)) (kvSt ds x fs it) (onV K) =
   (((("=" : Str).length == 0) = false) ∧ (decide ((1 : Int) < -(2 ^ 63 : Int)) || decide ((1 : Int) ≥ 2 ^ 63)) = false ∧ x.length + 2 ≤ sizeLine ∧ (Txt.splitMax x "=" 1).length ≤ sizeLine ∧ K (.dat (.list ((Txt.splitMax x "=" 1).map .str))) (kvSt ds x fs it)) := by
  kernel_rfl
theorem zRJ (P : Params) (ds : List PyData) (x : Str) (fs : List (Str × SV)) (it : SO) (p5 : Nat) (p6 p7 : Pos) (k : Kt) : ev (cfKv P) 36 zAy (.st (.Assign [.Tuple tg766 p5 p6] (asV as766) p7)) (kvSt ds x fs it) k =
   (((("=" : Str).length == 0) = false) ∧ (decide ((1 : Int) < -(2 ^ 63 : Int)) || decide ((1 : Int) ≥ 2 ^ 63)) = false ∧ x.length + 2 ≤ sizeLine ∧ (Txt.splitMax x "=" 1).length ≤ sizeLine ∧ zAN zAy (.Tuple tg766 p5 p6) (.dat (.list ((Txt.splitMax x "=" 1).map .str))) (kvSt ds x fs it) fun st₂ => k .next st₂) := by
  kernel_rfl
theorem zPs : zAl (asV as766) = true ∧ zDw (asV as766) = true := ⟨by kernel_rfl, by kernel_rfl⟩
noncomputable def subO : Expr → Expr
 | .Subscript o _ _ => o
 | _ => default
noncomputable def subI : Expr → Expr
 | .Subscript _ i _ => i
 | _ => default
noncomputable def ifEl : Stmt → List Stmt
 | .If _ _ e _ => e
 | _ => []
theorem zOi : ∃ p1 n p2 p3 r p4 rs p5 b e p6, if766 = .If (.BoolOp .And (.Compare (.Subscript (.Name "v" p1) (.Constant (.int 0) n p2) p3) [.Eq] [r] p4 :: rs) p5) b e p6 ∧ behindInMarks .Eq r = false :=
 let e0 := sEx if766; let s0 := kid e0 [0, 0]
 ⟨(subO s0).pos, kK (subI s0) [], (subI s0).pos, s0.pos, kid e0 [0, 1], kp e0 [0], (kids e0).drop 1, e0.pos, sBo if766, ifEl if766, if766.pos, by kernel_rfl, by kernel_rfl⟩
section
variable {w : World} {F : Fm} {W m : Wd} {s : Shared}
theorem zId {cl : String} {ds : List PyData} {x : Str} {fs : List (Str × SV)} {it : SO} {st : St} {E : Value → Shared → Prop} (ok : FmOk (cfKv w.params) F) (hns : F.sc.names = zAy) (hd : F.A.depth + 40 < recursionLimit) (hu : F.A.units + 8 * 40 < cLine) (hst : st = kvSt ds x fs it) (hb : BadE x cl) (R : Rep w F (wa W m) st s.heap)
  (hE : ∀ st' more h e s', Rep w F (wa W more) st' h → Heap.NewExc h s'.heap e cl → Nx F s s' → E (.ref e) s') : wpAny (model prog w) F.A (execs (zAT fr766) F.env) (fun _ _ => False) E s := by
 subst hst
 obtain ⟨p0, a1, p1, p2, p3, p4, p5, p6, p7, rest, _, e2⟩ := zFe
 have sn := zBY (zPA w)
 rw [e2]
 refine wpAny_execs_cons ?_
 cases hb with
 | few hs hl =>
  rename_i k
  refine PyProof.Rows.Assign_Tuple (ihV (n := 35) (sn 35) ok (by lia) (by lia) (K := fun v st => v = .dat (.list [.str k])) (by rw [hns, zOX, hs]; exact ⟨rfl, rfl, by rw [sizeLine_eq]; lia, by rw [sizeLine_eq]; show 1 ≤ 16777216; decide, rfl⟩) R ?_) (zFV zPs.1) (zDX zPs.2)
  rintro v st₁ m1 u s₁ rfl R₁ x₁ d₁
  obtain ⟨⟨a, rfl⟩, f, r⟩ := d₁
  cases r with
  | list g c q r =>
   rename_i o vs n
   obtain ⟨vs⟩ := vs
   have r : RdL F.B (wa (wa W m) m1).fz vs [.str k] := r
   cases r with
   | cons r1 r2 =>
    rename_i v vs
    cases r2
    have hl : s₁.heap.IsList a #[v] := ⟨_, g.look (zCM ok R₁), c, _, q⟩
    rw [PyProof.Rows.assign_Tuple]
    obtain ⟨l1, l2⟩ := zCZ (ns := zAy) (es := tg766) (xs := [.none, .none]) (st := kvSt ds x fs it) (k := fun _ => True) (env := F.env) (by rw [zBT.2]; trivial)
    refine wpAny_bind (wpAny_standAt (zJh ok.hand hl (by rw [l1]; exact zBT.1) l2 fun h₂ h' tk e gr hx => ?_))
    exact hE _ (wa m m1) h₂ e _ (by rw [← Wd.append_assoc]; exact zCn R₁ gr) hx (x₁.trans (Nx.of_gens rfl rfl rfl))
 | none hs hl =>
  rename_i k
  obtain ⟨q1, n, q2, q3, r, q4, rs, q5, b, el, q6, e3, hbm⟩ := zOi
  refine sn 36 F E (.st (.Assign [.Tuple tg766 p5 p6] (asV as766) p7)) _ (fun r st' => r = .next ∧ st' = ⟨[("l", .dat (.list ds)), ("parsed", .obj 0), ("elt", .str x), ("k", .str k), ("v", .str "")], [.dic fs, it]⟩) (wa W m) s (fun c s' => match c with
   | .fl f => match f with
    | .next => wpAny (model prog w) F.A (execs (if766 :: rest) F.env) (fun _ _ => False) E s'
    | _ => False
   | _ => False) ok (by lia) (by lia) (by rw [hns, zRJ, hs]; exact ⟨rfl, rfl, by rw [sizeLine_eq]; lia, by rw [sizeLine_eq]; show 2 ≤ 16777216; decide, true, [.str k, .str ""], rfl, zBT.1.symm, by rw [zBT.2]; exact ⟨rfl, rfl⟩⟩) R ?_ |> fun z => wpAny_mono z (fun f s' q => by cases f <;> first | exact q | exact q.elim) fun _ _ q => q
  rintro r' st₁ m1 c s₁ ⟨rfl, rfl⟩ R₁ x₁ d₁
  cases c with
  | fl f =>
   cases f <;> first | exact d₁.elim | skip
   show wpAny (model prog w) F.A (execs (if766 :: rest) F.env) (fun _ _ => False) E s₁
   rw [e3]
   refine wpAny_execs_cons (wpAny_If (isTrue_and (wpAny_isTrue_Compare1 (Subscript_ (zGT ok (by rw [hns]; kernel_rfl) (by kernel_rfl : lk "v" _ = some (.str "")) (by kernel_rfl) R₁ fun v dv => wpAny_Constant_int ?_)) hbm)))
   obtain ⟨⟨t, rfl⟩, _⟩ := dv
   refine item_str_or ok.hand (fitsSsize_of (N := 9223372036854775808) (by lia) (by lia) (Int.le_refl _)) (fun _ h' tk e hx => ?_) (fun _ h2 => absurd h2 (by decide))
   exact hE _ (wa m m1) s₁.heap e _ (by rw [← Wd.append_assoc]; exact R₁) hx (x₁.trans (Nx.of_gens rfl rfl rfl))
  | _ => exact d₁.elim
noncomputable def RsK (ds : List PyData) (cl : String) (st : St) : Prop := ∃ x fs it, st = kvSt ds x fs it ∧ BadE x cl
theorem zKa (P : Params) (ds : List PyData) (cl : String) {e : Str} {rest : List Str} (hb : BadE e cl) : ∀ (good : List Str) (kvs : List (Str × Str)) (j : Nat) (fs : List (Str × Str)), KvOk good kvs → fs.length + good.length ≤ 1000001 →
  forR (zAN zAy (zAs fr766)) (fun st k => ev (cfKv P) 37 zAy (.sts (zAT fr766)) st k) (RsK ds cl) (.dat (.list ds)) (ds.map svOf) (.it true (.dat (.list ds))) 1 j ((good ++ e :: rest).map .str)
   ⟨[("l", .dat (.list ds)), ("parsed", .obj 0)], [.dic (dV fs), .it true (.dat (.list ds)) j]⟩ := by
 intro good
 induction good with
 | nil =>
  intro kvs j fs h hl
  refine ⟨rfl, rfl, ?_⟩
  show zAN zAy (zAs fr766) (.str e) ⟨[("l", .dat (.list ds)), ("parsed", .obj 0)], [.dic (dV fs), .it true (.dat (.list ds)) (j + 1)]⟩ _
  rw [zEe]
  exact .inl ⟨e, _, _, rfl, hb⟩
 | cons e' r ih =>
  intro kvs j fs h hl
  cases h with
  | cons hs hv he hv2 hk2 hr =>
   rename_i key v kvs
   rw [List.length_cons] at hl
   have pl := zDK key (unq v) fs
   refine ⟨rfl, rfl, ?_⟩
   show zAN zAy (zAs fr766) (.str e') ⟨[("l", .dat (.list ds)), ("parsed", .obj 0)], [.dic (dV fs), .it true (.dat (.list ds)) (j + 1)]⟩ _
   rw [zEe]
   exact .inr (zHS hs hv he (by lia) ⟨_, zHR ds e' key (unq v) _ _, ih kvs (j + 1) (put key (unq v) fs) hr (by lia)⟩)
theorem zOY (P : Params) (ds : List PyData) (k : Kt) : ev (cfKv P) 40 zAy (.st (stAt 0 (zAG s766))) ⟨[("l", .dat (.list ds))], []⟩ k = k .next ⟨[("l", .dat (.list ds)), ("parsed", .obj 0)], [.dic []]⟩ := by kernel_rfl
theorem zOa {C : Cf} {ads : Wd} {st : St} {A : Around} {Rr : Result → Shared → Prop} {elts : List Str} {cl : String} {vs : List Value} (hK : C.K = KK w.params) (hkn : C.known = true) (ok : FmOk C F) (hA : A.frames = some F.stk) (hh : A.handled = none) (hd : A.depth + 60 < recursionLimit) (hu : A.units + 8 * 60 < cLine)
  (R : Rep w F ads st s.heap) (D : DenL F.B ads [.dat (.list (elts.map .str))] vs) (hb : zRp elts cl)
  (hR : ∀ x s', FlyX w F ads st (.type cl) x s' → Nx F s s' → Rr (.error x) s') : codeAny (model prog w) A (.call (.ref 51) ⟨vs, []⟩) Rr s := by
 have okY : FmOk (cfKv w.params) F := zAY hK.symm ok fun _ => hkn
 refine zOn (e' := f766) (zPh _) okY rfl hA hh (by lia) R D (by rw [← D.length]; rfl) (fun x hx => by rw [List.mem_singleton.mp hx]; exact trivial) List.nodup_nil (fun F' W Wc h₁ t ok' eA eS eT hW R' => ?_) hR
 replace R' : Rep w F' (wa W Wc) ⟨[("l", .dat (.list (elts.map .str)))], []⟩ h₁ := R'
 have hd' : F'.A.depth + 41 < recursionLimit := by rw [eA]; show A.depth + 1 + 41 < _; lia
 have hu' : F'.A.units + 8 * 41 < cLine := by rw [eA]; show A.units + 3 + 8 * 41 < _; lia
 have hns : F'.sc.names = zAy := by rw [eS]; rfl
 obtain ⟨p0, a1, p1, p2, p3, p4, p5, p6, p7, rest', e1, _⟩ := zFe
 have hst0 : stAt 0 (zAG s766) = .Assign [.Name "parsed" p0] a1 p1 := by rw [e1]; rfl
 have sn := zBY (zPA w)
 obtain ⟨good, kvs, e, rest, rfl, hg, hbe, hlen⟩ := hb
 show wpAny (model prog w) F'.A (execs (zAG s766) F'.env) _ _ _
 rw [e1]
 refine wpAny_execs_cons ?_
 rw [← hst0]
 generalize hs0 : ({ s with heap := h₁, toks := t } : Shared) = s₀
 have hh0 : s₀.heap = h₁ := by rw [← hs0]
 rw [← hh0] at R'
 refine wpAny_mono (sn 40 F' _ (.st (stAt 0 (zAG s766))) _ (fun r st' => r = .next ∧ st' = ⟨[("l", .dat (.list ((good ++ e :: rest).map .str))), ("parsed", .obj 0)], [.dic []]⟩) (wa W Wc) s₀ (fun c s' => match c with
   | .fl f => match f with
    | .next => wpAny (model prog w) F'.A (execs [.For (zAs fr766) (.Name "l" p2) (zAT fr766) [] p3, p4] F'.env) (fun _ _ => False) (fun x s' => zRq w F' W (.type cl) x s' ∧ NxB F'.quiet s₀ s') s'
    | _ => False
   | _ => False) ok' (by lia) (by lia) (by rw [hns, zOY]; exact ⟨rfl, rfl⟩) R' ?_) (fun f s' q => by cases f <;> first | exact q | exact q.elim) fun _ _ q => q
 rintro r' st₁ m1 c s₁ ⟨rfl, rfl⟩ R₁ x₁ d₁
 cases c with
 | fl f =>
  cases f <;> first | exact d₁.elim | skip
  rw [Wd.append_assoc] at R₁
  refine wpAny_execs_cons (wpAny_For (zGT ok' (by rw [hns]; kernel_rfl) (by rfl : lk "l" _ = some (.dat (.list ((good ++ e :: rest).map .str)))) (by kernel_rfl) R₁ fun u du => ?_) (zCF rfl))
  refine zDP ok' R₁ du rfl fun s₂ R₂ x₂ => ?_
  rw [Wd.append_assoc] at R₂
  refine zKf (rs := RsK ((good ++ e :: rest).map .str) cl) (bd := fun st k => ev (cfKv w.params) 37 zAy (.sts (zAT fr766)) st k) (p := 1) (s₀ := s₀) ok' (fun E' st' k' ads' s' Q' hev R'' T' => sn 37 F' E' (.sts _) st' k' ads' s' Q' ok' (by lia) (by lia) (by rw [hns]; exact hev) R'' T') (fun st' m s' hrs R'' nx => ?_) _ 0 _ _ s₂ (by rw [hns]; have := zKa w.params ((good ++ e :: rest).map .str) cl hbe (rest := rest) good kvs 0 [] hg (by rw [List.length_append] at hlen; rw [List.length_nil]; lia); rw [zEG] at this; exact this) rfl R₂ ?_ (x₁.trans x₂)
  ·obtain ⟨x, fs, it, rfl, hbx⟩ := hrs
   refine zId ok' hns (by lia) (by lia) rfl hbx R'' fun st'' more h e s'' Rx hx nx2 => ?_
   obtain ⟨L, hf⟩ := zEo ok' eT
   refine zMG eT rfl ok' hW Rx hx fun h' HX => ⟨HX, (nx.trans nx2).trans (Nx.of_gens rfl rfl rfl)⟩
  ·refine ⟨(s₁.heap.objs.size, 0), ?_, rfl⟩
   have := zBz (wa W (wa Wc m1)) s₁.heap.objs.size 0
   rw [← zBI R₁, Wd.append_assoc] at this
   exact this
 | _ => exact d₁.elim
end
section
variable {w : World} {C : Cf} {F : Fm} {ads : Wd} {s : Shared} {st : St} {A : Around} {E : Value → Shared → Prop}
theorem zLh {h h' : Heap} {zs : List (Addr × Obj)} (R : Rep w F ads st h) (grow : ∀ b o, h.get? b = some o → h'.get? b = some o) (hz : ∀ p ∈ zs, h'.get? p.1 = some p.2 ∧ h.objs.size ≤ p.1) (nd : (zs.map (·.1)).Nodup) : Rep w F (wa ads (⟨[], zs⟩ : Wd)) st h' := by
 obtain ⟨oL, hL⟩ := zNx R
 obtain ⟨m, news, lw, X⟩ := R
 have efz : (wa ads (⟨[], zs⟩ : Wd)).fz = ads.fz ++ zs := rfl
 have eads : (wa ads (⟨[], zs⟩ : Wd)).ads = ads.ads := List.append_nil _
 have pm : (news ++ (ads.fz ++ zs ++ lw)).Perm (zs ++ (news ++ (ads.fz ++ lw))) := by
  have := List.Perm.append_right lw (List.perm_append_comm (l₁ := news ++ ads.fz) (l₂ := zs))
  simpa only [List.append_assoc] using this
 have low : ∀ {b : Addr} {o : Obj}, h.get? b = some o → ∀ p ∈ zs, b ≠ p.1 := fun e p hp q => by
  have := Heap.lt_size e
  rw [q] at this
  exact Nat.lt_irrefl _ (Nat.lt_of_lt_of_le this (hz p hp).2)
 refine ⟨m, news, lw, ⟨X.fr.ns.at' fun o q => grow _ _ q, fun b o q => grow _ _ (X.fr.keep b o q), X.fr.above⟩, fun p hp => ?_, X.loc.mono, ?_, ?_, X.ups⟩
 ·rw [efz] at hp
  rcases List.mem_append.mp (pm.mem_iff.mp hp) with q | q
  ·refine ⟨(hz p q).1, fun e => low hL p q e.symm, ?_⟩
   cases e : F.h₀.get? p.1 with
   | none => rfl
   | some o' => exact absurd rfl (low (X.fr.keep _ _ e) p q)
  ·exact ⟨grow _ _ (X.nw p q).1, (X.nw p q).2⟩
 ·rw [eads]; exact X.led.mono
 ·rw [efz]
  refine (pm.map (·.1)).nodup_iff.mpr ?_
  rw [List.map_append]
  refine List.nodup_append.mpr ⟨nd, X.nd, fun a ha b hb e => ?_⟩
  obtain ⟨p, hp, rfl⟩ := List.mem_map.mp ha
  obtain ⟨q, hq, rfl⟩ := List.mem_map.mp hb
  exact low (X.nw q hq).1 p hp e.symm
theorem zLj {B : Heap} {fz : List (Addr × Obj)} {G : Wd} : ∀ {kvs : List (Str × Value)} {fs : List (Str × Str)} {as : List Addr}, KvR B G (dV fs) kvs → as.length = kvs.length →
  (∀ (j : Nat) (a : Addr), as[j]? = some a → ∃ key k x, kvs[j]? = some (k, x) ∧ (∃ t, key = Value.str k t) ∧ (a, tupO [key, x] 0) ∈ fz) → RdL B fz (as.map .ref) (fs.map fun p => .tuple [.str p.1, .str p.2]) := by
 intro kvs
 induction kvs with
 | nil =>
  intro fs as r hl _
  cases fs with
  | nil => obtain rfl := List.eq_nil_of_length_eq_zero hl; exact .nil
  | cons p q => cases r
 | cons kv kvs ih =>
  intro fs as r hl hp
  cases fs with
  | nil => cases r
  | cons p q =>
   cases as with
   | nil => cases hl
   | cons a as =>
    obtain ⟨key, k, x, e, ⟨t, rfl⟩, hm⟩ := hp 0 a rfl
    obtain rfl := Option.some.inj e
    cases r with
    | cons d r =>
     obtain ⟨⟨u, rfl⟩, _⟩ := d
     refine .cons (.tuple (.inr hm) rfl rfl ?_) (ih r (Nat.succ.inj hl) fun j a' ha => hp (j + 1) a' ha)
     exact .cons (.str _ _) (.cons (.str _ _) .nil)
theorem zEb {i : Nat} {fs : List (Str × Str)} {u : Value} {Q : Value → Shared → Prop} (ok : FmOk C F) (hh : A.handled = none) (R : Rep w F ads st s.heap) (d : Den F.B ads (.obj i) u) (hi : st.led[i]? = some (.dic (dV fs))) (hl : fs.length ≤ 1000001) (hk : ∀ p ∈ fs, p.1.length ≤ sizeLine ∧ p.2.length ≤ sizeLine)
  (hQ : ∀ z v s', Rep w F (wa ads (⟨[], z⟩ : Wd)) st s'.heap → Nx F s s' → Den F.B (wa ads (⟨[], z⟩ : Wd)) (.dat (.list (fs.map fun p => .tuple [.str p.1, .str p.2]))) v → Q v s') : wpAny (model prog w) A (call (.builtin "dict.items") [u]) (fun v s₁ => wpAny (model prog w) A (call (.type "list") [v]) Q E s₁) E s := by
 obtain ⟨a, o, kvs, rfl, ho, hd, kv, lo⟩ := zPp ok R d hi
 have hD := Heap.dictOf_iff.mpr ⟨o, ho, hd⟩
 have hlen : kvs.length ≤ sizeLine := by rw [kv.length, sizeLine_eq]; show (fs.map _).length ≤ _; rw [List.length_map]; lia
 refine call_meetsIn PySem.F.slot_dict_items hD.typeIs PySem.F.entry_dict_items (PySem.F.args_dict_items_1 _) (meets_dict_items (strKind prog w) a lo) ⟨⟨kvs, hD⟩, ?_⟩
 obtain ⟨ep, hat⟩ := hD.dictAt
 refine kdx_call (knd := strKind prog w) (kvs := kvs) (ep := ep) hh ⟨_, Heap.get?_push_size _ rfl, rfl, rfl⟩ (hat.push _) hlen fun h' tk acc c as hk' hS hla G hacc => ?_
 have grow : ∀ b o, s.heap.get? b = some o → h'.get? b = some o := fun b o e => hk' b o (Heap.get?_push_of_some _ e)
 have sz : (s.heap.push { cls := .type "dict_items", data := .fields #[.ref a] }).objs.size = s.heap.objs.size + 1 := by simp [Heap.push]
 rw [sz] at hS G
 have hS' : h'.get? (s.heap.objs.size + 1) = some (zCU acc.toList c) := by rw [hS]
 have there : ∀ b ∈ as, ∃ ob, h'.get? b = some ob := fun b hb => by
  obtain ⟨j, hj⟩ := List.mem_iff_getElem?.mp hb
  obtain ⟨_, _, _, _, _, e⟩ := G.pairs j b hj
  exact ⟨_, e⟩
 have R' := zLh (zs := (s.heap.objs.size + 1, zCU acc.toList c) :: as.map fun b => (b, (h'.get? b).getD default)) R grow (fun p hp => by
  rcases List.mem_cons.mp hp with rfl | hp
  ·exact ⟨hS', Nat.le_succ _⟩
  ·obtain ⟨b, hb, rfl⟩ := List.mem_map.mp hp
   obtain ⟨ob, e⟩ := there b hb
   exact ⟨by show h'.get? b = some ((h'.get? b).getD default); rw [e]; rfl, by have := G.above b hb; show s.heap.objs.size ≤ b; lia⟩) (by
  rw [List.map_cons, List.map_map]
  refine List.nodup_cons.mpr ⟨fun q => ?_, ?_⟩
  ·obtain ⟨b, hb, e⟩ := List.mem_map.mp q
   have := G.above b hb
   have e' : b = s.heap.objs.size + 1 := e
   lia
  ·have : as.map ((fun p : Addr × Obj => p.1) ∘ fun b => (b, (h'.get? b).getD default)) = as := List.map_id _
   rw [this, List.nodup_iff_pairwise_ne]
   exact G.rise.imp fun h => Nat.ne_of_lt h)
 have hm : ∀ p ∈ (s.heap.objs.size + 1, zCU acc.toList c) :: as.map (fun b => (b, (h'.get? b).getD default)), p ∈ (wa ads (⟨[], (s.heap.objs.size + 1, zCU acc.toList c) :: as.map fun b => (b, (h'.get? b).getD default)⟩ : Wd)).fz := fun p hp => List.mem_append_right _ hp
 have hr := zLj (B := F.B) (fz := (wa ads (⟨[], (s.heap.objs.size + 1, zCU acc.toList c) :: as.map fun b => (b, (h'.get? b).getD default)⟩ : Wd)).fz) kv hla fun j b hb => by
  obtain ⟨key, k, x, e1, e2, e3⟩ := G.pairs j b hb
  refine ⟨key, k, x, e1, Value.isStrOf_shape e2, hm _ (.tail _ (List.mem_map.mpr ⟨b, List.mem_of_getElem? hb, ?_⟩))⟩
  rw [e3]; rfl
 rw [sz]
 refine hQ _ _ { s with heap := h', toks := tk } R' (Nx.of_gens rfl rfl rfl) ⟨⟨_, rfl⟩, .list (by rw [List.length_map, sizeLine_eq]; lia) fun x hx => ?_, .list (.inr (hm _ (.head _))) rfl rfl (by rw [List.toList_toArray]; exact Eq.mpr (congrArg (fun l => RdL F.B _ l _) hacc) hr)⟩
 obtain ⟨p, hp, rfl⟩ := List.mem_map.mp hx
 refine .tuple (by rw [sizeLine_eq]; show 2 ≤ 16777216; decide) fun y hy => ?_
 rcases List.mem_cons.mp hy with rfl | hy
 ·exact .str (hk p hp).1
 ·rw [List.mem_singleton.mp hy]; exact .str (hk p hp).2
end
noncomputable def s793 : Stmt := stAt 35 B01
noncomputable def f793 : FnE := ⟨793, 1, ["items"], [], zAG s793, zAB s793, "_law_told", .ref 792, []⟩
theorem zSi (P : Params) : FnOk (KK P) f793 := FnOk.of (by kernel_rfl) (by kernel_rfl) ⟨_, _, _, _, (by kernel_rfl : (KK P).lookup 793 = some (o793 P)), rfl, rfl, fun _ _ => rfl, rfl, rfl, fun s vs X h => by
 obtain ⟨a, rfl⟩ := len1 h
 exact BindsTo.of_eq (by kernel_rfl)⟩
noncomputable def zIY : List (Str × NameKind) := (zAB s793).names
noncomputable def trS : Stmt := stAt 0 (zAG s793)
noncomputable def tryB : Stmt → List Stmt
 | .Try b _ _ _ _ => b
 | _ => []
noncomputable def tryH (n : Nat) : Stmt → ExceptHandler
 | .Try _ h _ _ _ => (h[n]?).getD default
 | _ => default
noncomputable def hdT : ExceptHandler → Expr
 | .ExceptHandler (some t) _ _ _ => t
 | _ => default
noncomputable def hdB : ExceptHandler → List Stmt
 | .ExceptHandler _ _ b _ => b
noncomputable def tupL : Expr → List Expr
 | .Tuple es _ _ => es
 | _ => []
noncomputable def zJi (n : Nat) (e : Expr) : Expr := ((tupL e)[n]?).getD default
noncomputable def rtE (n : Nat) : Expr := sEx (stAt 0 (hdB (tryH n trS)))
noncomputable def tyT : Expr := sEx (stAt 0 (tryB trS))
noncomputable def tyC : Expr := zJi 0 tyT
noncomputable def tyB : List Stmt := [.Return (some (.Tuple [.Call (.Name "list" (kp tyC [0])) [.Call (.Attribute (.Call (.Name "parse_keqv_list" (kp tyC [1, 0, 0, 0])) [.Name "items" (kp tyC [1, 0, 0, 1])] [] (kp tyC [1, 0, 0])) "items" (kp tyC [1, 0])) [] [] (kp tyC [1])] [] (kp tyC []), .Constant (.str "") (kK (zJi 1 tyT) []) (zJi 1 tyT).pos] (eK tyT) tyT.pos)) (stAt 0 (tryB trS)).pos]
noncomputable def tyE (n : Nat) (x : Str) : ExceptHandler := .ExceptHandler (some (.Name x (hdT (tryH n trS)).pos)) none [.Return (some (.Tuple [.List [] (zJi 0 (rtE n)).pos, .Constant (.str x) (kK (zJi 1 (rtE n)) []) (zJi 1 (rtE n)).pos] (eK (rtE n)) (rtE n).pos)) (stAt 0 (hdB (tryH n trS))).pos] (tryH n trS).pos
theorem zPL : trS = .Try tyB [tyE 0 "ValueError", tyE 1 "IndexError"] [] [] trS.pos := by kernel_rfl
theorem zPK : ((kp tyC [1, 0]).endLine == (kp tyC [1]).line) = true := by kernel_rfl
noncomputable def gTd : List (Str × Value) := [("parse_keqv_list", .ref 51), ("list", .type "list"), ("ValueError", .type "ValueError"), ("IndexError", .type "IndexError")]
theorem zTr (P : Params) : ∀ p ∈ gTd, zCI (KK P) p :=
 zAA ⟨by kernel_rfl, .inl (by kernel_rfl)⟩ <| zAA ⟨by kernel_rfl, .inr ⟨by kernel_rfl, by kernel_rfl, by kernel_rfl⟩⟩ <| zAA ⟨by kernel_rfl, .inr ⟨by kernel_rfl, by kernel_rfl, by kernel_rfl⟩⟩ <| zAA ⟨by kernel_rfl, .inr ⟨by kernel_rfl, by kernel_rfl, by kernel_rfl⟩⟩ zAD
noncomputable abbrev cfTd (P : Params) : Cf where
 K := KK P
 globs := gTd
 fns := []
 cls := []
 sps := [keqvSp]
theorem zKo (w : World) : CfOk w (cfTd w.params) := ⟨zAD, zAD, zAn (zTr _), zAA (zRI rfl rfl) zAD, zAD, zAD⟩
noncomputable def zAd (fs : List (Str × Str)) : List PyData := fs.map fun p => .tuple [.str p.1, .str p.2]
section
variable {w : World} {C : Cf} {F : Fm} {ads : Wd} {s : Shared} {st : St} {E : Value → Shared → Prop} {k : Kt} {Q : CR → Shared → Prop}
theorem zLB {A : Around} {e1 e2 : Expr} {kk : Nat} {p : Pos} {env : Env} {x y : SV} {Q : Value → Shared → Prop} (h : wpAny (model prog w) A (eval e1 env) (fun u s₁ => wpAny (model prog w) A (eval e2 env) (fun v s₂ => ∃ W st', Rep w F W st' s₂.heap ∧ Den F.B W x u ∧ Den F.B W y v ∧
   ∀ s', Rep w F (wa W (.one s₂.heap.objs.size 0)) { st' with led := st'.led ++ [.tup [x, y]] } s'.heap → Nx F s₂ s' → Den F.B (wa W (.one s₂.heap.objs.size 0)) (.obj st'.led.length) (.ref s₂.heap.objs.size) → Q (.ref s₂.heap.objs.size) s') E s₁) E s)
  (h1 : starEach [e1, e2] env = (false, eval e1 env) :: starEach [e2] env := by rfl) (h2 : starEach [e2] env = (false, eval e2 env) :: starEach [] env := by rfl) : wpAny (model prog w) A (eval (.Tuple [e1, e2] kk p) env) Q E s := by
 refine wpAny_Tuple_spliced (spliced_more (wpAny_mono h (fun u s₁ hu => spliced_more (wpAny_mono hu (fun v s₂ hv => spliced_none ?_) fun _ _ z => z) h2) fun _ _ z => z) h1)
 obtain ⟨W, st', R, d1, d2, hq⟩ := hv
 refine ⟨by rw [sizeLine_eq]; show 2 ≤ 16777216; decide, hq _ (zAr rfl R (.tup (n := 0) (.cons d1.mono (.cons d2.mono .nil)))) (Nx.of_gens rfl rfl rfl) ⟨(s₂.heap.objs.size, 0), by rw [zBI R]; exact zBz _ _ _, rfl⟩⟩
end
theorem zJj (P : Params) (p2 p3 p4 : Pos) (d : SV) (k : Kt) : ev (cfTd P) 80 zIY (.ex (.Call (.Name "parse_keqv_list" p2) [.Name "items" p3] [] p4)) ⟨[("items", d)], []⟩ k = zRK [d] ⟨[("items", d)], []⟩ k := by kernel_rfl
theorem zGp : zAG s793 = [trS] := by kernel_rfl
noncomputable abbrev tdSt (d : SV) (l : List SO) : St := ⟨[("items", d)], l⟩
section
variable {w : World} {F : Fm} {W : Wd} {s : Shared} {E : Value → Shared → Prop} {k : Kt} {Q : CR → Shared → Prop} {outer : List Env}
theorem zLE {elts : List Str} {kvs : List (Str × Str)} (ok : FmOk (cfTd w.params) F) (hns : F.sc.names = zIY) (hd : F.A.depth + 81 < recursionLimit) (hu : F.A.units + 8 * 81 < cLine) (R : Rep w F W (tdSt (.dat (.list (elts.map .str))) []) s.heap)
  (hk : KvOk elts kvs) (hl : elts.length ≤ 1000001) (hl2 : (dput kvs []).length ≤ 1000001) (hz : ∀ p ∈ dput kvs [], p.1.length ≤ sizeLine ∧ p.2.length ≤ sizeLine)
  (T : Then w F W s k Q) (h : k (.ret (.obj 2)) (tdSt (.dat (.list (elts.map .str))) [.dic (dV (dput kvs [])), .gone, .tup [.dat (.list (zAd (dput kvs []))), .str ""]]))
  : wpAny (model prog w) F.A (execs (zAG s793) F.env) (fun f s' => Q (.fl f) s') E s := by
 rw [zGp, zPL]
 refine wpAny_execs_cons (wpAny_Try_except (wpAny_execs_cons (wpAny_Return_some (zLB (F := F) (x := .dat (.list (zAd (dput kvs [])))) (y := .str "") ?_))))
 refine Call_ (zBP (zKo w) ok (by rw [hns]; kernel_rfl) (by kernel_rfl : lk "list" gTd = some (.type "list")) (by kernel_rfl) R ?_)
 refine zAS (fun a e => nomatch e) rfl (spliced_more ?_ rfl)
 refine MethodCall_ (ihV (n := 80) (zBY (zKo w) 80) ok hd hu (K := fun v st => v = .obj 0 ∧ st = tdSt (.dat (.list (elts.map .str))) [.dic (dV (dput kvs [])), .gone]) (by rw [hns, zJj]; exact ⟨elts, kvs, rfl, hk, hl, rfl, rfl⟩) R ?_) (zEY rfl rfl rfl zPK)
 rintro v st₁ m1 u s₁ ⟨rfl, rfl⟩ R₁ x₁ d₁
 obtain ⟨a, o, kv, rfl, ho, hdd, kvr, lo⟩ := zPp ok R₁ d₁ rfl
 have hD := Heap.dictOf_iff.mpr ⟨o, ho, hdd⟩
 refine getMethod_builtin hD.typeIs PySem.F.plainAttrs_dict PySem.F.slot_dict_items PySem.F.type_dict_items hD.mapOf.noDict ?_
 refine zAS (fun a e => nomatch e) rfl (spliced_none ?_)
 refine wpAny_mono (zEb (E := _) ok ok.hand R₁ d₁ rfl hl2 hz fun z v s₂ R₂ x₂ d₂ => ?_) (fun v s' hq => spliced_none hq) fun _ _ h => h
 refine wpAny_Constant_str ⟨_, _, R₂, d₂, ⟨⟨_, rfl⟩, by rw [sizeLine_eq]; show 0 ≤ 16777216; decide⟩, fun s' R' x' d' => ?_⟩
 show Q (.fl (.ret (.ref s₂.heap.objs.size))) s'
 refine T (.ret (.obj 2)) _ (wa m1 (wa (⟨[], z⟩) (.one s₂.heap.objs.size 0))) (.fl (.ret _)) s' h ?_ ((x₁.trans x₂).trans ((zAa s₂ _).trans x')) ?_
 ·rw [← Wd.append_assoc, ← Wd.append_assoc]; exact R'
 ·rw [← Wd.append_assoc, ← Wd.append_assoc]; exact d'
theorem zMk {cl : String} {q2 q3 q4 q5 : Pos} {n2 k2 : Nat} {z : List (Addr × Obj)} {A : Around} {d : SV} {Q : Flow → Shared → Prop} (ok : FmOk (cfTd w.params) F) (hcl : (Str.ofString cl).length ≤ sizeLine) (R : Rep w F (wa W (⟨[], z⟩ : Wd)) (tdSt d []) s.heap)
  (hQ : ∀ a s', Rep w F (wa (wa (wa W (⟨[], z⟩ : Wd)) (.one s.heap.objs.size 0)) (.one a 0)) (tdSt d [.list [], .tup [.obj 0, .str (Str.ofString cl)]]) s'.heap → Nx F s s' → Den F.B (wa (wa (wa W (⟨[], z⟩ : Wd)) (.one s.heap.objs.size 0)) (.one a 0)) (.obj 1) (.ref a) → Q (.ret (.ref a)) s') :
  wpAny (model prog w) A (execs [.Return (some (.Tuple [.List [] q2, .Constant (.str (Str.ofString cl)) n2 q3] k2 q4)) q5] F.env) Q E s := by
 refine wpAny_execs_cons (wpAny_Return_some (zLB (F := F) (x := .obj 0) (y := .str (Str.ofString cl)) (wpAny_List_spliced (spliced_none ⟨Nat.zero_le _, ?_⟩))))
 have R1 := zAr (o := zCU [] 0) (so := .list []) rfl R (.list (n := 0) .nil)
 refine wpAny_Constant_str ⟨_, _, R1, ⟨(s.heap.objs.size, 0), ?_, rfl⟩, ⟨⟨_, rfl⟩, hcl⟩, fun s' R' x' d' => hQ _ s' R' (by refine NxB.trans ?_ x'; exact Nx.of_gens rfl rfl rfl) d'⟩
 have := zBz (wa W (⟨[], z⟩ : Wd)) s.heap.objs.size 0
 rw [← zBI R] at this; exact this
end
section
variable {w : World} {F : Fm} {W : Wd} {s : Shared} {E : Value → Shared → Prop} {k : Kt} {Q : CR → Shared → Prop} {outer : List Env}
theorem zKg : isSubtype (.type "ValueError") (.type "BaseException") = pure true ∧ isSubtype (.type ((Manifest.find? "ValueError").elim "type" fun x => x.metatype)) (.type "tuple") = pure false ∧ isSubtype (.type "ValueError") (.type "ValueError") = pure true ∧ isSubtype (.type "IndexError") (.type "ValueError") = pure false := by
 refine ⟨?_, ?_, ?_, ?_⟩ <;> (rw [isSubtype_type]; kernel_rfl)
theorem zRc : isSubtype (.type "IndexError") (.type "BaseException") = pure true ∧ isSubtype (.type ((Manifest.find? "IndexError").elim "type" fun x => x.metatype)) (.type "tuple") = pure false ∧ isSubtype (.type "IndexError") (.type "IndexError") = pure true := by
 refine ⟨?_, ?_, ?_⟩ <;> (rw [isSubtype_type]; kernel_rfl)
theorem zHZ {cl : String} {q1 q2 q3 q4 q5 q6 : Pos} {n2 k2 : Nat} {z : List (Addr × Obj)} {d : SV} {e : Addr} {a0 : Value} {base : Heap} {rest : List ExceptHandler} {Q : Flow → Shared → Prop} (ok : FmOk (cfTd w.params) F) (hns : F.sc.names = zIY) (hcl : (Str.ofString cl).length ≤ sizeLine)
  (hx : isSubtype (.type cl) (.type "BaseException") = pure true) (hnt : isSubtype (.type ((Manifest.find? cl).elim "type" fun x => x.metatype)) (.type "tuple") = pure false) (hsub : isSubtype (.type cl) (.type cl) = pure true)
  (hg : zAb (Str.ofString cl) zIY = some .globalImplicit) (hl : lk (Str.ofString cl) gTd = some (.type cl)) (hdb : Fast.sEq (Str.ofString cl) "__debug__" = false)
  (RB : RepB w F (wa W (⟨[], z⟩ : Wd)) (tdSt d []) s.heap base) (fl : Heap.FlyingW base F.stk e (.type cl) a0 s.heap)
  (hQ : ∀ more a s', Rep w F (wa W more) (tdSt d [.list [], .tup [.obj 0, .str (Str.ofString cl)]]) s'.heap → Nx F s s' → Den F.B (wa W more) (.obj 1) (.ref a) → Q (.ret (.ref a)) s') :
  wpAny (model prog w) F.A (handleBy (.ref e) F.env (.ExceptHandler (some (.Name (Str.ofString cl) q1)) none [.Return (some (.Tuple [.List [] q2, .Constant (.str (Str.ofString cl)) n2 q3] k2 q4)) q5] q6 :: rest)) Q E s := by
 refine wpAny_handleBy_builtin (X := cl) (T := cl) (b := true) hx hnt hsub (zBP (zKo w) ok (by rw [hns]; exact hg) hl hdb RB.rep ⟨rfl, ?_, ?_⟩)
 ·obtain ⟨ob, e1, e2⟩ := fl.there
  exact ⟨ob, e1, e2⟩
 ·rw [if_pos rfl]
  refine lands_againW fl fun h₁ fl₁ u₁ => ?_
  have RB1 := zBL ok RB fl₁.1 u₁
  refine zMk (s := { s with heap := h₁ }) ok hcl RB1.rep fun a s' R' x' d' => ?_
  refine hQ (wa (wa (⟨[], z⟩ : Wd) (.one h₁.objs.size 0)) (.one a 0)) a s' ?_ (NxB.trans (Nx.of_gens rfl rfl rfl : NxB F.quiet s { s with heap := h₁ }) x') ?_
  ·rw [← Wd.append_assoc, ← Wd.append_assoc]; exact R'
  ·rw [← Wd.append_assoc, ← Wd.append_assoc]; exact d'
theorem zMj {q1 q6 : Pos} {b₀ : Stmt} {suite : List Stmt} {z : List (Addr × Obj)} {d : SV} {e : Addr} {a0 : Value} {base : Heap} {rest : List ExceptHandler} {Q : Flow → Shared → Prop} (ok : FmOk (cfTd w.params) F) (hns : F.sc.names = zIY)
  (RB : RepB w F (wa W (⟨[], z⟩ : Wd)) (tdSt d []) s.heap base) (fl : Heap.FlyingW base F.stk e (.type "IndexError") a0 s.heap)
  (h : wpAny (model prog w) F.A (handleBy (.ref e) F.env rest) Q E s) :
  wpAny (model prog w) F.A (handleBy (.ref e) F.env (.ExceptHandler (some (.Name "ValueError" q1)) none (b₀ :: suite) q6 :: rest)) Q E s := by
 refine wpAny_handleBy_builtin (X := "IndexError") (T := "ValueError") (b := false) zKg.1 zKg.2.1 zKg.2.2.2 (zBP (zKo w) ok (by rw [hns]; kernel_rfl) (by kernel_rfl : lk "ValueError" gTd = some (.type "ValueError")) (by kernel_rfl) RB.rep ⟨rfl, ?_, ?_⟩)
 ·obtain ⟨ob, e1, e2⟩ := fl.there
  exact ⟨ob, e1, e2⟩
 ·rw [if_neg (by decide)]
  exact h
theorem zNQ {elts : List Str} {cl : String} (hst : F.stk = F.env :: outer) (ok : FmOk (cfTd w.params) F) (hns : F.sc.names = zIY) (hd : F.A.depth + 81 < recursionLimit) (hu : F.A.units + 8 * 81 < cLine) (R : Rep w F W (tdSt (.dat (.list (elts.map .str))) []) s.heap)
  (hb : zRp elts cl) (T : Then w F W s k Q) (h : k (.ret (.obj 1)) (tdSt (.dat (.list (elts.map .str))) [.list [], .tup [.obj 0, .str (Str.ofString cl)]])) : wpAny (model prog w) F.A (execs (zAG s793) F.env) (fun f s' => Q (.fl f) s') E s := by
 rw [zGp, zPL]
 obtain ⟨L, hf⟩ := zEo ok hst
 have fin : ∀ more a s', Rep w F (wa W more) (tdSt (.dat (.list (elts.map .str))) [.list [], .tup [.obj 0, .str (Str.ofString cl)]]) s'.heap → Nx F s s' → Den F.B (wa W more) (.obj 1) (.ref a) → Q (.fl (.ret (.ref a))) s' := fun more a s' R' x' d' => T (.ret (.obj 1)) _ more (.fl (.ret (.ref a))) s' h R' x' d'
 refine wpAny_execs_cons (wpAny_Try_except (wpAny_execs_cons (wpAny_Return_some (wpAny_Tuple_spliced (spliced_more (Call_ (zBP (zKo w) ok (by rw [hns]; kernel_rfl) (by kernel_rfl : lk "list" gTd = some (.type "list")) (by kernel_rfl) R ?_)) rfl)))))
 refine zAS (fun a e => nomatch e) rfl (spliced_more ?_ rfl)
 refine MethodCall_ (Call_ (zBP (zKo w) ok (by rw [hns]; kernel_rfl) (by kernel_rfl : lk "parse_keqv_list" gTd = some (.ref 51)) (by kernel_rfl) R ?_)) (zEY rfl rfl rfl zPK)
 refine zBe (K := KK w.params) rfl (spliced_more (zGT ok (by rw [hns]; kernel_rfl) (by rfl : lk "items" (tdSt (.dat (.list (elts.map .str))) []).loc = some (.dat (.list (elts.map .str)))) (by kernel_rfl) R fun u du => spliced_none ⟨⟨zFL ok R, by kernel_rfl⟩, wpAny_call ?_⟩) rfl)
 refine zOa (st := tdSt (.dat (.list (elts.map .str))) []) rfl rfl ok (ok.stack rfl) ok.hand (by lia) (by lia) R (.cons du .nil) hb fun x s₁ FX nx => ?_
 obtain ⟨e, z, base, a0, rfl, RB, fl⟩ := FX
 rw [hst] at fl
 refine wpAny_looks_onW (hst ▸ ok.stack rfl) hf fl fun h₁ hh₁ u₁ => ?_
 have RB1 := zBL ok RB hh₁.1 u₁
 refine wpAny_landsW (s := { s₁ with heap := h₁ }) hh₁ fun h₂ fl₂ u₂ => ?_
 have RB2 := zBL ok RB1 fl₂.1 u₂
 rw [← hst] at fl₂
 have x2 : ∀ {s'}, Nx F { s₁ with heap := h₂ } s' → Nx F s s' := fun x => (nx.trans (Nx.of_gens rfl rfl rfl : NxB F.quiet s₁ { s₁ with heap := h₂ })).trans x
 obtain ⟨good, kvs, b, rest, rfl, _, hbe, _⟩ := hb
 cases hbe with
 | few =>
  exact zHZ (s := { s₁ with heap := h₂ }) (cl := "ValueError") ok hns (by rw [sizeLine_eq]; decide +kernel) zKg.1 zKg.2.1 zKg.2.2.1 (by kernel_rfl) (by kernel_rfl) (by kernel_rfl) RB2 fl₂ fun more a s' R' x' d' => fin more a s' R' (x2 x') d'
 | none =>
  refine zMj (s := { s₁ with heap := h₂ }) ok hns RB2 fl₂ ?_
  exact zHZ (s := { s₁ with heap := h₂ }) (cl := "IndexError") ok hns (by rw [sizeLine_eq]; decide +kernel) zRc.1 zRc.2.1 zRc.2.2 (by kernel_rfl) (by kernel_rfl) (by kernel_rfl) RB2 fl₂ fun more a s' R' x' d' => fin more a s' R' (x2 x') d'
end
theorem zPJ (v : Str) : (unq v).length ≤ v.length := by
 unfold unq
 split
 ·split
  ·exact Txt.slice_le _ _ _
  ·exact Nat.le_refl _
 ·exact Nat.le_refl _
theorem zGM {α : Type} {k : Str} {v : α} {p : Str × α} : ∀ {fs : List (Str × α)}, p ∈ put k v fs → p ∈ fs ∨ (p.2 = v ∧ (p.1 = k ∨ ∃ q ∈ fs, q.1 = p.1))
 | [], h => by rw [List.mem_singleton.mp h]; exact .inr ⟨rfl, .inl rfl⟩
 | (y, a) :: r, h => by
  unfold put at h
  cases q : Fast.sEq k y with
  | true =>
   rw [q] at h
   rcases List.mem_cons.mp h with rfl | h
   ·exact .inr ⟨rfl, .inr ⟨_, .head _, rfl⟩⟩
   ·exact .inl (.tail _ h)
  | false =>
   rw [q] at h
   rcases List.mem_cons.mp h with rfl | h
   ·exact .inl (.head _)
   ·rcases zGM h with h | ⟨h1, h2 | ⟨z, hz, e⟩⟩
    ·exact .inl (.tail _ h)
    ·exact .inr ⟨h1, .inl h2⟩
    ·exact .inr ⟨h1, .inr ⟨z, .tail _ hz, e⟩⟩
theorem zOx {elts : List Str} {kvs : List (Str × Str)} (h : KvOk elts kvs) : ∀ fs : List (Str × Str), (∀ p ∈ fs, p.1.length ≤ 1000000 ∧ p.2.length ≤ 1000000) → (dput kvs fs).length ≤ fs.length + elts.length ∧ ∀ p ∈ dput kvs fs, p.1.length ≤ 1000000 ∧ p.2.length ≤ 1000000 := by
 induction h with
 | nil => intro fs h; exact ⟨Nat.le_refl _, h⟩
 | @cons e k v es kvs hs hv he hv2 hk2 hr ih =>
  intro fs h
  obtain ⟨a, b⟩ := ih (put k (unq v) fs) fun p hp => by
   rcases zGM hp with hp | ⟨h1, h2⟩
   ·exact h p hp
   ·refine ⟨?_, by rw [h1]; exact Nat.le_trans (zPJ v) hv2⟩
    rcases h2 with h2 | ⟨q, hq, h2⟩
    ·rw [h2]; exact hk2
    ·rw [← h2]; exact (h q hq).1
  have pl := zDK k (unq v) fs
  exact ⟨by show (dput kvs (put k (unq v) fs)).length ≤ _; rw [List.length_cons]; lia, b⟩
inductive Told : List Str → PyData → Prop
 | good {elts : List Str} {kvs : List (Str × Str)} : KvOk elts kvs → elts.length ≤ 1000001 → Told elts (.tuple [.list (zAd (dput kvs [])), .str ""])
 | bad {elts : List Str} {cl : String} : zRp elts cl → Told elts (.tuple [.list [], .str (Str.ofString cl)])
noncomputable def zIE (svs : List SV) (st : St) (k : Kt) : Prop := on1 svs fun x => onD x fun d => onLs d fun ds => ∃ (elts : List Str) (r : PyData), ds = elts.map .str ∧ Told elts r ∧ k (.v (.dat r)) st
noncomputable def toldSp : SpE := ⟨793, 1, 100, zIE⟩
theorem zID {svs : List SV} {st : St} {k : Kt} (h : zIE svs st k) : ∃ (elts : List Str) (r : PyData), svs = [.dat (.list (elts.map .str))] ∧ Told elts r ∧ k (.v (.dat r)) st := by
 obtain ⟨x, rfl, h⟩ := zAc h
 obtain ⟨d, rfl, h⟩ := zCQ h
 obtain ⟨ds, rfl, elts, r, rfl, a⟩ := zCt h
 exact ⟨elts, r, rfl, a⟩
theorem zLD {w : World} {C : Cf} (hK : C.K = KK w.params) (hC : C.known = true) : SpOk w C toldSp := by
 refine ⟨by rw [hK]; kernel_rfl, ?_⟩
 intro F A ads st s svs vs k Q Rr ok hA hh hd hu h R D hl' T hR
 obtain ⟨elts, r, rfl, ht, hk⟩ := zID h
 have okY : FmOk (cfTd w.params) F := zAY hK.symm ok (by first | exact fun _ => rfl | exact fun _ => by assumption | exact fun h => h)
 have d100 : toldSp.d = 100 := rfl
 rw [d100] at hd hu
 refine zHw (e := f793) (led₁ := []) (led₂ := st.led) (zSi _) okY (fun _ => hA hC) hh (by lia) R D hl' rfl trivial (fun x hx => by rw [List.mem_singleton.mp hx]; exact trivial) List.nodup_nil (fun F' W E' Q' s₁ ok' eA eS eT R' T' => ?_) T hR
 replace R' : Rep w F' W (tdSt (.dat (.list (elts.map .str))) []) s₁.heap := R'
 have hns : F'.sc.names = zIY := by rw [eS]; rfl
 have hd' : F'.A.depth + 81 < recursionLimit := by rw [eA]; show A.depth + 1 + 81 < _; lia
 have hu' : F'.A.units + 8 * 81 < cLine := by rw [eA]; show A.units + 3 + 8 * 81 < _; lia
 have z0 : (Str.ofString "").length ≤ sizeLine := Nat.zero_le _
 cases ht with
 | good hkv hle =>
  rename_i kvs
  obtain ⟨a, b⟩ := zOx hkv [] (fun p hp => nomatch hp)
  have big : ∀ {n : Nat}, n ≤ 1000000 → n ≤ sizeLine := fun h => by rw [sizeLine_eq]; lia
  have a' : (dput kvs []).length ≤ 1000001 := by rw [List.length_nil] at a; lia
  refine zLE ok' hns hd' hu' R' hkv hle a' (fun p hp => ⟨big (b p hp).1, big (b p hp).2⟩) T' ?_
  exact ⟨.obj 2, _, [], .inl rfl, .frz (d := .tuple [.list (zAd (dput kvs [])), .str ""]) (.tup (i := 2) (xs := [.dat (.list (zAd (dput kvs []))), .str ""]) rfl (by rw [sizeLine_eq]; show 2 ≤ 16777216; decide) (.cons (.dat _) (.cons (.str _) .nil))), .nil, hk⟩
 | bad hb =>
  rename_i cl
  refine zNQ eT ok' hns hd' hu' R' hb T' ?_
  exact ⟨.obj 1, _, [], .inl rfl, .frz (d := .tuple [.list [], .str (Str.ofString cl)]) (.tup (i := 1) (xs := [.obj 0, .str (Str.ofString cl)]) rfl (by rw [sizeLine_eq]; show 2 ≤ 16777216; decide) (.cons (.list (i := 0) (xs := []) rfl (by rw [sizeLine_eq]; show 0 ≤ 16777216; decide) .nil) (.cons (.str _) .nil))), .nil, hk⟩
noncomputable def s786 : Stmt := stAt 34 B01
noncomputable def f786 : FnE := ⟨786, 1, ["pairs"], [], zAG s786, zAB s786, "_law_due", .ref 785, ["key", "rows"]⟩
theorem zSk (P : Params) : FnOk (KK P) f786 := FnOk.of (by kernel_rfl) (by kernel_rfl) ⟨_, _, _, _, (by kernel_rfl : (KK P).lookup 786 = some (o786 P)), rfl, rfl, fun _ _ => rfl, rfl, rfl, fun s vs X h => by
 obtain ⟨a, rfl⟩ := len1 h
 exact BindsTo.of_eq (by kernel_rfl)⟩
noncomputable def zAj : List (Str × NameKind) := (zAB s786).names
noncomputable def zGa : Stmt := stAt 1 (zAG s786)
noncomputable def gD : List (Str × Value) := [("len", .builtin "len"), ("range", .type "range")]
theorem gokD (P : Params) : ∀ p ∈ gD, zCI (KK P) p := zAA ⟨by kernel_rfl, .inr ⟨by kernel_rfl, by kernel_rfl, by kernel_rfl⟩⟩ <| zAA ⟨by kernel_rfl, .inr ⟨by kernel_rfl, by kernel_rfl, by kernel_rfl⟩⟩ zAD
noncomputable abbrev cfD (P : Params) : Cf where
 K := KK P
 globs := gD
 fns := []
 cls := []
theorem cokD (w : World) : CfOk w (cfD w.params) := ⟨zAD, zAD, zAn (gokD _), zAD, zAD, zAD⟩
noncomputable abbrev duL (ps : List PyData) : List (Str × SV) := [("key", .obj 0), ("rows", .obj 1), ("pairs", .dat (.list ps))]
noncomputable abbrev duG (kv : Option SV) (xs : List SV) (N j : Nat) : List SO := [.cell kv, .cell (some (.obj 2)), .list xs, .rng N, .itr N j]
noncomputable abbrev duA (ps : List PyData) (more : List (Str × SV)) : List (Str × SV) := ("key", .obj 0) :: ("rows", .obj 1) :: ("pairs", .dat (.list ps)) :: more
noncomputable abbrev rgN (N : Nat) : List SV := (List.range N).map fun (j : Nat) => SV.int (j : Int)
noncomputable def lenK (y : SV) (st : St) (f : Int → Prop) : Prop := match zEI y with
 | some s => f s.length
 | none => zBM (zEL st y) fun p => p.2.length ≤ sizeLine ∧ f p.2.length
theorem zOu (P : Params) (ps : List PyData) (k : Kt) : ev (cfD P) 90 zAj (.sts (zAG s786)) ⟨duL ps, [.cell none, .cell none]⟩ k =
   ((ps.map svOf).length ≤ sizeLine ∧ ((0 : Int) ≤ ((ps.map svOf).length : Nat) ∧ (((ps.map svOf).length : Nat) : Int).toNat ≤ sizeLine ∧ forE (zAN zAj (zAs zGa)) (fun st k => ev (cfD P) 87 zAj (.sts (zAT zGa)) st k) (.obj 3) (rgN (((ps.map svOf).length : Nat) : Int).toNat) (.itr (((ps.map svOf).length : Nat) : Int).toNat) 4 0 (rgN (((ps.map svOf).length : Nat) : Int).toNat)
     ⟨duL ps, duG none [] (((ps.map svOf).length : Nat) : Int).toNat 0⟩ (zDH (fun st k => ev (cfD P) 88 zAj (.sts ((zAG s786).drop 2)) st k) k))) := by
  kernel_rfl
theorem zOs (ps : List PyData) (n : Int) (l : List SO) (K : St → Prop) : zAN zAj (zAs zGa) (.int n) ⟨duL ps, l⟩ K = K ⟨duA ps [("n", .int n)], l⟩ := by kernel_rfl
noncomputable def bo786 : List Stmt := zAT zGa
theorem zTE (P : Params) (ps : List PyData) (n : Int) (kv : Option SV) (xs : List SV) (N j : Nat) (k : Kt) : ev (cfD P) 87 zAj (.sts (zAT zGa)) ⟨duA ps [("n", .int n)], duG kv xs N j⟩ k =
   (∃ y, idxP (ps.map svOf) n y ∧ lenK y ⟨duA ps [("n", .int n)], duG kv xs N j⟩ fun m => ifT (m == 1)
      (ev (cfD P) 85 zAj (.sts (zCz (stAt 0 bo786))) ⟨duA ps [("n", .int n)], duG kv xs N j⟩ (zDH (fun st k => ev (cfD P) 86 zAj (.sts (bo786.drop 1)) st k) k))
      (ev (cfD P) 86 zAj (.sts (bo786.drop 1)) ⟨duA ps [("n", .int n)], duG kv xs N j⟩ k)) := by
  kernel_rfl
theorem zSy (P : Params) (ps : List PyData) (n : Int) (kv : Option SV) (xs : List SV) (N j : Nat) (k : Kt) : ev (cfD P) 85 zAj (.sts (zCz (stAt 0 bo786))) ⟨duA ps [("n", .int n)], duG kv xs N j⟩ k =
   k (.ret (.obj 5)) ⟨duA ps [("n", .int n)], duG kv xs N j ++ [.tup [.obj 2, .str "ValueError", .int n]]⟩ := by
  kernel_rfl
noncomputable def tg786 : List Expr := match stAt 1 bo786 with
 | .Assign [.Tuple es _ _] _ _ => es
 | _ => []
theorem zTD (P : Params) (ps : List PyData) (n : Int) (kv : Option SV) (xs : List SV) (N j : Nat) (k : Kt) : ev (cfD P) 86 zAj (.sts (bo786.drop 1)) ⟨duA ps [("n", .int n)], duG kv xs N j⟩ k =
   (∃ y, idxP (ps.map svOf) n y ∧ zAN zAj (.Tuple tg786 0 default) y ⟨duA ps [("n", .int n)], duG kv xs N j⟩ fun st₂ => ev (cfD P) 85 zAj (.sts (bo786.drop 2)) st₂ k) := by
  kernel_rfl
theorem zHm : tg786.length = 2 ∧ ∀ (ps : List PyData) (n : Int) (kv : Option SV) (xs : List SV) (N j : Nat) (a b : Str) (K : St → Prop), zBn zAj tg786 [.str a, .str b] ⟨duA ps [("n", .int n)], duG kv xs N j⟩ K =
   K ⟨duA ps [("n", .int n), ("value", .str b)], duG (some (.str a)) xs N j⟩ := ⟨by kernel_rfl, fun ps n kv xs N j a b K => by kernel_rfl⟩
theorem zTC (P : Params) (ps : List PyData) (n : Int) (a v : Str) (xs : List SV) (N j : Nat) (k : Kt) : ev (cfD P) 85 zAj (.sts (bo786.drop 2)) ⟨duA ps [("n", .int n), ("value", .str v)], duG (some (.str a)) xs N j⟩ k =
   ifT (Fast.sEq v "") (k (.ret (.obj 5)) ⟨duA ps [("n", .int n), ("value", .str v)], duG (some (.str a)) xs N j ++ [.tup [.obj 2, .str "IndexError", .int n]]⟩)
     (ev (cfD P) 84 zAj (.sts (bo786.drop 3)) ⟨duA ps [("n", .int n), ("value", .str v)], duG (some (.str a)) xs N j⟩ k) := by
  kernel_rfl
theorem zTB (P : Params) (ps : List PyData) (n : Int) (a v : Str) (xs : List SV) (N j : Nat) (k : Kt) : ev (cfD P) 84 zAj (.sts (bo786.drop 3)) ⟨duA ps [("n", .int n), ("value", .str v)], duG (some (.str a)) xs N j⟩ k =
   ifT (Txt.startswith v "\"") (ifT (Txt.endswith v "\"")
       (ev (cfD P) 83 zAj (.sts (bo786.drop 4)) ⟨duA ps [("n", .int n), ("value", .str (Txt.slice (Txt.slice v (some 1) none) none (some (-1))))], duG (some (.str a)) xs N j⟩ k)
       (ev (cfD P) 83 zAj (.sts (bo786.drop 4)) ⟨duA ps [("n", .int n), ("value", .str v)], duG (some (.str a)) xs N j⟩ k))
     (ev (cfD P) 83 zAj (.sts (bo786.drop 4)) ⟨duA ps [("n", .int n), ("value", .str v)], duG (some (.str a)) xs N j⟩ k) := by
  kernel_rfl
theorem zRf (P : Params) (ps : List PyData) (kv : Option SV) (xs : List SV) (N : Nat) (k : Kt) : ev (cfD P) 88 zAj (.sts ((zAG s786).drop 2)) ⟨duL ps, [.cell kv, .cell (some (.obj 2)), .list xs, .rng N, .gone]⟩ k =
   ((ps.map svOf).length ≤ sizeLine ∧ k (.ret (.obj 5)) ⟨duL ps, [.cell kv, .cell (some (.obj 2)), .list xs, .rng N, .gone, .tup [.obj 2, .str "", .int ((ps.map svOf).length : Nat)]]⟩) := by
  kernel_rfl
noncomputable def lcD : Expr := aVal (stAt 4 bo786)
noncomputable def cnD : List (Str × NameKind) := zAu (lcSc lcD).names
noncomputable def frD : List (Str × SV) := zBC (duA [] []) (lcSc lcD).names
theorem zTA (P : Params) (ps : List PyData) (n : Int) (a v : Str) (xs : List SV) (N j : Nat) (k : Kt) : ev (cfD P) 83 zAj (.sts (bo786.drop 4)) ⟨duA ps [("n", .int n), ("value", .str v)], duG (some (.str a)) xs N j⟩ k =
   (xs.length ≤ sizeLine ∧ ((0 : Int) ≤ (xs.length : Nat) ∧ ((xs.length : Nat) : Int).toNat ≤ sizeLine ∧ zBQ (zAN cnD (zAm lcD)) (some fun st k => ev (cfD P) 81 cnD (.tr (lcIf lcD)) st k) (fun st k => ev (cfD P) 81 cnD (.ex (zBH lcD)) st k) (.obj 5) (rgN ((xs.length : Nat) : Int).toNat) (.itr ((xs.length : Nat) : Int).toNat) 6 7 0 (rgN ((xs.length : Nat) : Int).toNat)
      ⟨frD, duG (some (.str a)) xs N j ++ [.rng ((xs.length : Nat) : Int).toNat, .itr ((xs.length : Nat) : Int).toNat 0, .list []]⟩
      (fun stE => zAf (duA ps [("n", .int n), ("value", .str v)]) 6 7 stE fun y st₁ => ev (cfD P) 82 zAj (.sts (bo786.drop 5)) ⟨put "found" y st₁.loc, st₁.led⟩ k))) := by
  kernel_rfl
theorem zOv (P : Params) (i : Int) (a : Str) (xs : List SV) (N j M : Nat) (x y : SO) (K : Kt) (D : St → Prop) : zAN cnD (zAm lcD) (.int i) ⟨frD, duG (some (.str a)) xs N j ++ [.rng M, x, y]⟩ (fun st₁ => zCA (some fun st k => ev (cfD P) 81 cnD (.tr (lcIf lcD)) st k) st₁ fun c st₂ => ifT c (ev (cfD P) 81 cnD (.ex (zBH lcD)) st₂ K) (D st₂)) =
   (∃ u, idxP xs i u ∧ subT ⟨frD ++ ([("k", .int i)] : List (Str × SV)), duG (some (.str a)) xs N j ++ [.rng M, x, y]⟩ u (.int 0) fun z => cmpA 80 ⟨frD ++ ([("k", .int i)] : List (Str × SV)), duG (some (.str a)) xs N j ++ [.rng M, x, y]⟩ .Eq z (.str a) fun c =>
     ifT c (K (.v (.int i)) ⟨frD ++ ([("k", .int i)] : List (Str × SV)), duG (some (.str a)) xs N j ++ [.rng M, x, y]⟩) (D ⟨frD ++ ([("k", .int i)] : List (Str × SV)), duG (some (.str a)) xs N j ++ [.rng M, x, y]⟩)) := by
  kernel_rfl
noncomputable abbrev duF (ps : List PyData) (n : Int) (v : Str) (fs : List PyData) : List (Str × SV) := duA ps [("n", .int n), ("value", .str v), ("found", .dat (.list fs))]
theorem zSz (P : Params) (ps fs : List PyData) (n : Int) (a v : Str) (xs : List SV) (N j M : Nat) (k : Kt) : ev (cfD P) 82 zAj (.sts (bo786.drop 5)) ⟨duF ps n v fs, duG (some (.str a)) xs N j ++ [.rng M]⟩ k =
   cmpA 79 ⟨duF ps n v fs, duG (some (.str a)) xs N j ++ [.rng M, .list []]⟩ .Eq (.dat (.list fs)) (.obj 6) fun z => ifT z
     (ev (cfD P) 80 zAj (.sts (zCz (stAt 5 bo786))) ⟨duF ps n v fs, duG (some (.str a)) xs N j ++ [.rng M, .list []]⟩ (zDH (fun st k => ev (cfD P) 81 zAj (.sts []) st k) k))
     (ev (cfD P) 80 zAj (.sts (ifEl (stAt 5 bo786))) ⟨duF ps n v fs, duG (some (.str a)) xs N j ++ [.rng M, .list []]⟩ (zDH (fun st k => ev (cfD P) 81 zAj (.sts []) st k) k)) := by
  kernel_rfl
theorem zRg (P : Params) (ps fs : List PyData) (n : Int) (a v : Str) (xs : List SV) (N j M : Nat) (k : Kt) : ev (cfD P) 80 zAj (.sts (zCz (stAt 5 bo786))) ⟨duF ps n v fs, duG (some (.str a)) xs N j ++ [.rng M, .list []]⟩ k =
   (xs.length ≤ sizeLine ∧ k .next ⟨duF ps n v fs, duG (some (.str a)) (xs ++ [.obj 7]) N j ++ [.rng M, .list [], .tup [.str a, .str v]]⟩) := by
  kernel_rfl
theorem zRe (P : Params) (ps fs : List PyData) (n : Int) (a v : Str) (xs : List SV) (N j M : Nat) (k : Kt) : ev (cfD P) 80 zAj (.sts (ifEl (stAt 5 bo786))) ⟨duF ps n v fs, duG (some (.str a)) xs N j ++ [.rng M, .list []]⟩ k =
   (∃ y, idxP (fs.map svOf) 0 y ∧ onI y fun z => 0 ≤ z ∧ z < (xs.length : Int) ∧ xs.length ≤ sizeLine ∧ k .next ⟨duF ps n v fs, duG (some (.str a)) (xs.set z.toNat (.obj 7)) N j ++ [.rng M, .list [], .tup [.str a, .str v]]⟩) := by
  kernel_rfl
theorem zMw (P : Params) (st : St) (k : Kt) : ev (cfD P) 81 zAj (.sts []) st k = k .next st := by kernel_rfl
theorem zBB {xs : List SV} {i : Nat} {x : SV} (h : xs[i]? = some x) (hl : xs.length ≤ 1000000) : idxP xs (i : Int) x := by
 have hi : i < xs.length := (List.getElem?_eq_some_iff.mp h).1
 refine ⟨i, ?_, h, by lia, by lia⟩
 unfold seqIndex?
 simp
 lia
theorem zNT {n : Nat} {led : List SO} : ∀ {a b c d : List SV}, SvsT n led a b → SvsT n led c d → SvsT n led (a ++ c) (b ++ d) := by
 intro a b c d r h
 induction r with
 | nil => exact h
 | cons x _ ih => exact .cons x ih
theorem zNS {n : Nat} {led : List SO} {x y : SV} (h : SvT n led x y) : ∀ {a b : List SV} (i : Nat), SvsT n led a b → SvsT n led (a.set i x) (b.set i y) := by
 intro a b i r
 induction r generalizing i with
 | nil => exact .nil
 | cons z r ih =>
  cases i with
  | zero => exact .cons h r
  | succ i => exact .cons z (ih i)
noncomputable def fmI {α β : Type} (f : Nat → α → Option β) : List α → List β
 | [] => []
 | x :: r => (f 0 x).toList ++ fmI (fun i => f (i + 1)) r
theorem zJP {α β : Type} : ∀ (l : List α) (f : Nat → α → Option β), (List.range l.length).filterMap (fun i => (l[i]?).bind (f i)) = fmI f l := by
 intro l
 induction l with
 | nil => intro f; rfl
 | cons x r ih =>
  intro f
  rw [List.length_cons, List.range_succ_eq_map, List.filterMap_cons, List.filterMap_map]
  have e : List.filterMap ((fun i => ((x :: r)[i]?).bind (f i)) ∘ Nat.succ) (List.range r.length) = fmI (fun i => f (i + 1)) r := by
   rw [← ih]; rfl
  rw [e]
  show (match f 0 x with | none => _ | some b => _) = _
  show _ = (f 0 x).toList ++ _
  cases f 0 x <;> rfl
noncomputable def hitI (a : Str) (o : Nat) (i : Nat) (p : Str × Str) : Option PyData := if Fast.sEq p.1 a = true then some (.int ((i + o : Nat) : Int)) else none
theorem zQp (a v : Str) : ∀ (rows : List (Str × Str)) (o : Nat), (fmI (hitI a o) rows = [] ∧ put a v rows = rows ++ [(a, v)]) ∨ ∃ i r, fmI (hitI a o) rows = .int ((i + o : Nat) : Int) :: r ∧ i < rows.length ∧ rows.set i (a, v) = put a v rows := by
 intro rows
 induction rows with
 | nil => intro o; exact .inl ⟨rfl, rfl⟩
 | cons p rows ih =>
  intro o
  obtain ⟨y, b⟩ := p
  have es : (fun i => hitI a o (i + 1)) = hitI a (o + 1) := by
   funext i p
   unfold hitI
   rw [show i + 1 + o = i + (o + 1) by lia]
  cases q : Fast.sEq y a with
  | true =>
   refine .inr ⟨0, fmI (fun i => hitI a o (i + 1)) rows, ?_, Nat.zero_lt_succ _, ?_⟩
   ·show (hitI a o 0 (y, b)).toList ++ _ = _
    unfold hitI
    rw [if_pos q]; rfl
   ·have e := zAO q
    subst e
    show (y, v) :: rows = put y v ((y, b) :: rows)
    unfold put
    rw [zNq]
  | false =>
   have q' : Fast.sEq a y = false := by rw [zJL]; exact q
   have e1 : fmI (hitI a o) ((y, b) :: rows) = fmI (hitI a (o + 1)) rows := by
    show (hitI a o 0 (y, b)).toList ++ fmI (fun i => hitI a o (i + 1)) rows = _
    rw [es]
    unfold hitI
    rw [if_neg (by rw [q]; decide)]; rfl
   have e2 : put a v ((y, b) :: rows) = (y, b) :: put a v rows := by
    show put a v ((y, b) :: rows) = _
    conv => lhs; unfold put
    rw [q']
   rw [e1, e2]
   rcases ih (o + 1) with ⟨h1, h2⟩ | ⟨i, r, h1, h2, h3⟩
   ·exact .inl ⟨h1, by rw [h2]; rfl⟩
   ·exact .inr ⟨i + 1, r, by rw [h1, show i + (o + 1) = i + 1 + o by lia], Nat.succ_lt_succ h2, by show (y, b) :: rows.set i (a, v) = _; rw [h3]⟩
noncomputable def unq2 (v : Str) : Str := match Txt.startswith v "\"" with
 | true => match Txt.endswith v "\"" with
  | true => Txt.slice (Txt.slice v (some 1) none) none (some (-1))
  | false => v
 | false => v
noncomputable def dueS : List (List Str) → List (Str × Str) → Nat → List (Str × Str) × String × Nat
 | [], rows, n => (rows, "", n)
 | p :: r, rows, n => match p with
  | [] => (rows, "", n)
  | a :: q => match q with
   | [] => (rows, "ValueError", n)
   | v :: _ => match Fast.sEq v "" with
    | true => (rows, "IndexError", n)
    | false => dueS r (put a (unq2 v) rows) (n + 1)
noncomputable def zAW (pairs : List (List Str)) : List PyData := pairs.map fun p => .list (p.map .str)
noncomputable def zFH (p : List Str) : Prop := (∃ a, p = [a] ∧ a.length ≤ 1000000) ∨ ∃ a v, p = [a, v] ∧ a.length ≤ 1000000 ∧ v.length ≤ 1000000
theorem zIr (n : Nat) (st : St) (d : PyData) (y : SV) (k : Bool → Prop) : cmpA n st .Eq (.dat d) y k = eqD n st (.dat d) y k := rfl
theorem zMu {n : Nat} {st : St} {x y : SV} {d e : PyData} {k : Bool → Prop} (h1 : frzD 4 st.led x = some d) (h2 : frzD 4 st.led y = some e) (hn : 8 ≤ n) (c1 : d.canLay0 = true) (c2 : e.canLay0 = true) (dp : min d.depth e.depth ≤ 60) (hk : k (d.eqv e)) : eqD n st x y k := by
 unfold eqD
 rw [h1, h2]
 exact ⟨hn, c1, c2, dp, hk⟩
theorem zRd (ds : List PyData) : (PyData.list ds).eqv (.list []) = ds.isEmpty := by cases ds <;> rfl
noncomputable abbrev rsV (rows : List (Str × Str)) : List SV := (zAd rows).map svOf
theorem zEN (rows : List (Str × Str)) : (rsV rows).length = rows.length := by simp [zAd]
theorem zQk (rows : List (Str × Str)) (i : Nat) : (rsV rows)[i]? = (rows[i]?).map fun p => SV.dat (.tuple [.str p.1, .str p.2]) := by
 show ((rows.map _).map svOf)[i]? = _
 rw [List.map_map, List.getElem?_map]; rfl
theorem zRY : frD = ([("key", .obj 0), ("rows", .obj 1)] : List (Str × SV)) := by kernel_rfl
theorem duT {ps : List PyData} {n : Int} {v : Str} {fs : List PyData} {a : Str} {xs : List SV} {rows : List (Str × Str)} {N j : Nat} {rest : List SO} (h : SvsT 5 (duG (some (.str a)) xs N j ++ rest) xs (rsV rows)) : Trim 5 ⟨duF ps n v fs, duG (some (.str a)) xs N j ++ rest⟩ ⟨duL ps, duG (some (.str a)) (rsV rows) N j⟩ :=
 zCJ (n := 5) (loc := duL ps) (more := [("n", .int n), ("value", .str v), ("found", .dat (.list fs))]) ⟨by show 0 < 5; decide, by show 1 < 5; decide, trivial, trivial⟩ (.cons (.cell (.same trivial)) (.cons (.cell (.keep (by decide))) (.cons (.list h) (.cons .rng (.cons .itr .nil)))))
theorem zTG {a v : Str} {xs : List SV} {N j M : Nat} : SvT 5 (duG (some (.str a)) xs N j ++ [.rng M, .list [], .tup [.str a, .str v]]) (.obj 7) (.dat (.tuple [.str a, .str v])) :=
 .frz (d := .tuple [.str a, .str v]) (.tup (i := 7) (xs := [.str a, .str v]) rfl (by rw [sizeLine_eq]; show 2 ≤ 16777216; decide) (.cons (.str _) (.cons (.str _) .nil)))
theorem zOh : ∀ l : List PyData, (∀ d ∈ l, ∃ i, d = .int i) → PyData.canLayAll0 l = true := fun l => by
 induction l with
 | nil => intro _; rfl
 | cons d r ih =>
  intro h
  obtain ⟨i, rfl⟩ := h d (.head _)
  simp only [PyData.canLayAll0, Bool.and_eq_true]
  exact ⟨rfl, ih fun x hx => h x (.tail _ hx)⟩
theorem zRZ (a : Str) : ∀ (rows : List (Str × Str)) (o : Nat), ∀ d ∈ fmI (hitI a o) rows, ∃ i, d = .int i := by
 intro rows
 induction rows with
 | nil => intro o d h; cases h
 | cons p rows ih =>
  intro o d h
  have es : (fun i => hitI a o (i + 1)) = hitI a (o + 1) := by
   funext i p
   unfold hitI
   rw [show i + 1 + o = i + (o + 1) by lia]
  have h' : d ∈ (hitI a o 0 p).toList ++ fmI (fun i => hitI a o (i + 1)) rows := h
  rw [es] at h'
  rcases List.mem_append.mp h' with h' | h'
  ·unfold hitI at h'
   split at h'
   ·rw [List.mem_singleton.mp h']; exact ⟨_, rfl⟩
   ·cases h'
  ·exact ih _ d h'
theorem zLn (ps : List PyData) (n : Int) (v : Str) (fs : List PyData) : put "found" (.dat (.list fs)) (duA ps [("n", .int n), ("value", .str v)]) = duF ps n v fs := by kernel_rfl
theorem zMv (P : Params) {ps : List PyData} {n : Int} {a v : Str} {rows : List (Str × Str)} {N j : Nat} {K : Kt} (hl : rows.length ≤ 1000)
  (h : ∀ st', Trim 5 st' ⟨duL ps, duG (some (.str a)) (rsV (put a v rows)) N j⟩ → K .next st') : ev (cfD P) 83 zAj (.sts (bo786.drop 4)) ⟨duA ps [("n", .int n), ("value", .str v)], duG (some (.str a)) (rsV rows) N j⟩ K := by
 rw [zTA]
 have hM : (((rsV rows).length : Nat) : Int).toNat = rows.length := by rw [zEN]; rfl
 have hsz : (rsV rows).length ≤ sizeLine := by rw [zEN, sizeLine_eq]; lia
 refine ⟨hsz, by lia, by rw [hM, sizeLine_eq]; lia, ?_⟩
 rw [hM]
 have hfr : ∀ n, 6 ≤ n → okF n frD := fun n hn => by rw [zRY]; exact ⟨by show 0 < n; lia, by show 1 < n; lia, trivial⟩
 refine zGh (pre := duG (some (.str a)) (rsV rows) N j ++ [.rng rows.length]) (fl := frD) (src := .obj 5) (all := rgN rows.length) (slot := .itr rows.length) (duA ps [("n", .int n), ("value", .str v)]) (fun y st₁ => ev (cfD P) 82 zAj (.sts (bo786.drop 5)) ⟨put "found" y st₁.loc, st₁.led⟩ K) (fun i => (rows[i]?).bind (hitI a 0 i)) (fun n led hn => ?_) (hfr _ (Nat.le_refl _)) ⟨by show 0 < 6; decide, by show 1 < 6; decide, trivial, trivial, trivial, trivial⟩ (fun _ _ _ _ => .itr) (fun x y => rfl) (by rw [List.length_map, List.length_range, sizeLine_eq]; lia) (fun i x zs K Dd hx hK hD => ?_) ?_
 ·have hn' : 6 ≤ n := hn
  exact .cons (.cell (.same trivial)) (.cons (.cell (.keep (by lia))) (.cons (.list (zBi _ _ _)) (.cons .rng (.cons .itr (.cons .rng .nil)))))
 ·rw [List.getElem?_map, Option.map_eq_some_iff] at hx
  obtain ⟨i', hi', rfl⟩ := hx
  obtain ⟨hi, e⟩ := List.getElem?_eq_some_iff.mp hi'
  rw [List.getElem_range] at e
  subst e
  rw [List.length_range] at hi
  show zAN cnD (zAm lcD) (.int i) ⟨frD, duG (some (.str a)) (rsV rows) N j ++ [.rng rows.length, .itr rows.length (i + 1), .list zs]⟩ _
  rw [zOv]
  have hp : rows[i]? = some rows[i] := List.getElem?_eq_getElem hi
  generalize rows[i] = p at hp
  refine ⟨.dat (.tuple [.str p.1, .str p.2]), zBB (by rw [zQk, hp]; rfl) (by rw [zEN]; lia), .str p.1, ⟨0, rfl, rfl, by decide, by decide⟩, ?_⟩
  show ifT (Fast.sEq p.1 a) _ _
  refine zAk (fun q => ?_) fun q => ?_
  ·exact hK (.int (i : Int)) (by rw [hp]; show (if Fast.sEq p.1 a = true then some (PyData.int ((i + 0 : Nat) : Int)) else none) = _; rw [if_pos q]; rfl) [("k", .int i)] []
  ·exact hD (by rw [hp]; show (if Fast.sEq p.1 a = true then some (PyData.int ((i + 0 : Nat) : Int)) else none) = _; rw [if_neg (by rw [q]; decide)]) [("k", .int i)] []
 ·rw [List.length_map, List.length_range, zJP]
  have hint := zRZ a rows 0
  have hput := zQp a v rows 0
  have hfl : (fmI (hitI a 0) rows).length ≤ rows.length := by
   rw [← zJP]
   exact Nat.le_trans (List.length_filterMap_le _ _) (Nat.le_of_eq List.length_range)
  generalize fmI (hitI a 0) rows = fs at hint hput hfl
  dsimp only
  rw [zLn, zSz, zIr]
  refine zMu (d := .list fs) (e := .list []) rfl rfl (by decide) (zOh fs hint) rfl (Nat.le_trans (Nat.min_le_right _ _) (by decide)) ?_
  rw [zRd]
  rcases hput with ⟨rfl, e⟩ | ⟨i, r, rfl, hi, e⟩
  ·show ev _ _ _ _ _ _
   rw [zRg]
   refine ⟨hsz, ?_⟩
   rw [zBS, zMw]
   refine h _ (duT ?_)
   rw [e]
   have : rsV (rows ++ [(a, v)]) = rsV rows ++ [SV.dat (.tuple [.str a, .str v])] := by
    show ((rows ++ [(a, v)]).map _).map svOf = _
    rw [List.map_append, List.map_append]; rfl
   rw [this]
   exact zNT (zBi _ _ _) (.cons zTG .nil)
  ·show ev _ _ _ _ _ _
   rw [zRe]
   refine ⟨.int ((i + 0 : Nat) : Int), zBB (i := 0) rfl (by rw [List.length_map]; lia), by lia, by rw [zEN]; lia, hsz, ?_⟩
   rw [zBS, zMw]
   refine h _ (duT ?_)
   rw [← e]
   have : rsV (rows.set i (a, v)) = (rsV rows).set i (SV.dat (.tuple [.str a, .str v])) := by
    show ((rows.set i (a, v)).map _).map svOf = ((rows.map _).map svOf).set i _
    rw [List.map_set, List.map_set]; rfl
   rw [this]
   exact zNS zTG i (zBi _ _ _)
noncomputable def DueK (ps : List PyData) (N : Nat) (k : Kt) (r : List (Str × Str) × String × Nat) : Prop :=
 (r.2.1 = "" → ∀ kv, k .next ⟨duL ps, [.cell kv, .cell (some (.obj 2)), .list (rsV r.1), .rng N, .gone]⟩) ∧
 (r.2.1 ≠ "" → ∀ kv j loc, k (.ret (.obj 5)) ⟨loc, duG kv (rsV r.1) N j ++ [.tup [.obj 2, .str (Str.ofString r.2.1), .int (r.2.2 : Nat)]]⟩)
theorem zKN (pairs : List (List Str)) (i : Nat) : ((zAW pairs).map svOf)[i]? = (pairs[i]?).map fun p => SV.dat (.list (p.map .str)) := by
 show ((pairs.map _).map svOf)[i]? = _
 rw [List.map_map, List.getElem?_map]; rfl
theorem zDL (pairs : List (List Str)) : ((zAW pairs).map svOf).length = pairs.length := by simp [zAW]
theorem zMx {P : Params} {ps : List PyData} {n : Int} {a v : Str} {xs : List SV} {N j : Nat} {K : Kt} (h : ev (cfD P) 83 zAj (.sts (bo786.drop 4)) ⟨duA ps [("n", .int n), ("value", .str (unq2 v))], duG (some (.str a)) xs N j⟩ K) :
  ev (cfD P) 84 zAj (.sts (bo786.drop 3)) ⟨duA ps [("n", .int n), ("value", .str v)], duG (some (.str a)) xs N j⟩ K := by
 rw [zTB]
 unfold unq2 at h
 refine zAk (fun q1 => zAk (fun q2 => ?_) fun q2 => ?_) fun q1 => ?_
 ·rw [q1, q2] at h; exact h
 ·rw [q1, q2] at h; exact h
 ·rw [q1] at h; exact h
theorem zOt (P : Params) (pairs : List (List Str)) (k : Kt) (hok : ∀ p ∈ pairs, zFH p) (hlen : pairs.length ≤ 100) : ∀ (rest : List (List Str)) (j : Nat) (rows : List (Str × Str)) (kv : Option SV), pairs.drop j = rest → rows.length ≤ j →
  DueK (zAW pairs) pairs.length k (dueS rest rows j) →
  forE (zAN zAj (zAs zGa)) (fun st k => ev (cfD P) 87 zAj (.sts (zAT zGa)) st k) (.obj 3) (rgN pairs.length) (.itr pairs.length) 4 j ((List.range' j rest.length).map fun (i : Nat) => SV.int (i : Int))
   ⟨duL (zAW pairs), duG kv (rsV rows) pairs.length j⟩ k := by
 intro rest
 induction rest with
 | nil =>
  intro j rows kv hd hj hK
  exact ⟨rfl, rfl, hK.1 rfl kv⟩
 | cons p r ih =>
  intro j rows kv hd hj hK
  have hp : pairs[j]? = some p := by
   have := congrArg (fun l => l[0]?) hd
   simpa using this
  have hd' : pairs.drop (j + 1) = r := by rw [← List.tail_drop, hd]; rfl
  have hjl : j < pairs.length := (List.getElem?_eq_some_iff.mp hp).1
  have hget : ((zAW pairs).map svOf)[j]? = some (.dat (.list (p.map .str))) := by rw [zKN, hp]; rfl
  have hidx := zBB hget (by rw [zDL]; lia)
  refine ⟨rfl, rfl, ?_⟩
  show zAN zAj (zAs zGa) (.int j) ⟨duL (zAW pairs), duG kv (rsV rows) pairs.length (j + 1)⟩ _
  rw [zOs]
  show ev (cfD P) 87 zAj (.sts (zAT zGa)) ⟨duA (zAW pairs) [("n", .int j)], duG kv (rsV rows) pairs.length (j + 1)⟩ _
  rw [zTE]
  refine ⟨_, hidx, ?_⟩
  rcases hok p (List.mem_of_getElem? hp) with ⟨a, rfl, _⟩ | ⟨a, v, rfl, ha, hv⟩
  ·refine ⟨by rw [sizeLine_eq]; show 1 ≤ 16777216; decide, zAk (fun _ => ?_) fun q => Bool.noConfusion (show true = false from q)⟩
   rw [zSy]
   exact hK.2 (show ("ValueError" : String) ≠ "" by decide) kv (j + 1) _
  ·refine ⟨by rw [sizeLine_eq]; show 2 ≤ 16777216; decide, zAk (fun q => Bool.noConfusion (show false = true from q)) fun _ => ?_⟩
   rw [zTD]
   refine ⟨_, hidx, true, [.str a, .str v], rfl, zHm.1.symm, ?_⟩
   rw [zHm.2, zTC]
   refine zAk (fun q => ?_) fun q => ?_
   ·have e : dueS ([a, v] :: r) rows j = (rows, "IndexError", j) := by
     show (match Fast.sEq v "" with | true => _ | false => _) = _
     rw [q]
    rw [e] at hK
    exact hK.2 (show ("IndexError" : String) ≠ "" by decide) (some (.str a)) (j + 1) _
   ·have e : dueS ([a, v] :: r) rows j = dueS r (put a (unq2 v) rows) (j + 1) := by
     show (match Fast.sEq v "" with | true => _ | false => _) = _
     rw [q]
    rw [e] at hK
    have pl := zDK a (unq2 v) rows
    exact zMx (zMv P (by lia) fun st' tr => ⟨_, tr, ih (j + 1) (put a (unq2 v) rows) (some (.str a)) hd' (by lia) hK⟩)
theorem zTF : ∀ (rest : List (List Str)) (rows : List (Str × Str)) (n : Nat), (∀ p ∈ rest, zFH p) → (dueS rest rows n).2.1 = "" → (dueS rest rows n).2.2 = n + rest.length := by
 intro rest
 induction rest with
 | nil => intro rows n _ _; rfl
 | cons p r ih =>
  intro rows n hok h
  rcases hok p (.head _) with ⟨a, rfl, _⟩ | ⟨a, v, rfl, _, _⟩
  ·exact absurd (show ("ValueError" : String) = "" from h) (by decide)
  ·have e : dueS ([a, v] :: r) rows n = match Fast.sEq v "" with | true => (rows, "IndexError", n) | false => dueS r (put a (unq2 v) rows) (n + 1) := rfl
   rw [e] at h ⊢
   cases q : Fast.sEq v "" with
   | true => rw [q] at h; exact absurd (show ("IndexError" : String) = "" from h) (by decide)
   | false =>
    rw [q] at h
    show (dueS r (put a (unq2 v) rows) (n + 1)).2.2 = _
    rw [ih _ _ (fun x hx => hok x (.tail _ hx)) h, List.length_cons]; lia
theorem zOm (led : List SO) (d : PyData) : Frz led (svOf d) d := by
 cases d <;> first | exact .none | exact .bool _ | exact .int _ | exact .str _ | exact .dat _
theorem zHe (led : List SO) : ∀ l : List PyData, FrzL led (l.map svOf) l
 | [] => .nil
 | d :: r => .cons (zOm led d) (zHe led r)
noncomputable def dueD (pairs : List (List Str)) : PyData := .tuple [.list (zAd (dueS pairs [] 0).1), .str (Str.ofString (dueS pairs [] 0).2.1), .int ((dueS pairs [] 0).2.2 : Nat)]
noncomputable def dueF (svs : List SV) (st : St) (k : Kt) : Prop := on1 svs fun x => onD x fun d => onLs d fun ds => ∃ pairs : List (List Str), ds = zAW pairs ∧ (∀ p ∈ pairs, zFH p) ∧ pairs.length ≤ 100 ∧ k (.v (.dat (dueD pairs))) st
noncomputable def dueSp : SpE := ⟨786, 1, 100, dueF⟩
theorem zKi {svs : List SV} {st : St} {k : Kt} (h : dueF svs st k) : ∃ pairs : List (List Str), svs = [.dat (.list (zAW pairs))] ∧ (∀ p ∈ pairs, zFH p) ∧ pairs.length ≤ 100 ∧ k (.v (.dat (dueD pairs))) st := by
 obtain ⟨x, rfl, h⟩ := zAc h
 obtain ⟨d, rfl, h⟩ := zCQ h
 obtain ⟨ds, rfl, pairs, rfl, a⟩ := zCt h
 exact ⟨pairs, rfl, a⟩
theorem zGf : ∀ (rest : List (List Str)) (rows : List (Str × Str)) (n : Nat), (dueS rest rows n).1.length ≤ rows.length + rest.length := by
 intro rest
 induction rest with
 | nil => intro rows n; exact Nat.le_refl _
 | cons p r ih =>
  intro rows n
  have base : rows.length ≤ rows.length + (p :: r).length := Nat.le_add_right _ _
  cases p with
  | nil => exact base
  | cons a q =>
   cases q with
   | nil => exact base
   | cons v q =>
    show (match Fast.sEq v "" with | true => (rows, "IndexError", n) | false => dueS r (put a (unq2 v) rows) (n + 1)).1.length ≤ _
    cases Fast.sEq v "" with
    | true => exact base
    | false =>
     have := ih (put a (unq2 v) rows) (n + 1)
     have pl := zDK a (unq2 v) rows
     show (dueS r (put a (unq2 v) rows) (n + 1)).1.length ≤ _
     rw [List.length_cons]; lia
theorem zPm {w : World} {C : Cf} (hK : C.K = KK w.params) (hC : C.known = true) : SpOk w C dueSp := by
 refine ⟨by rw [hK]; kernel_rfl, ?_⟩
 intro F A ads st s svs vs k Q Rr ok hA hh hd hu h R D hl' T hR
 replace hA : true = true → A.frames = some F.stk := fun _ => hA hC
 obtain ⟨pairs, rfl, hok, hlen, hk⟩ := zKi h
 have okY : FmOk (cfD w.params) F := zAY hK.symm ok (by first | exact fun _ => rfl | exact fun _ => by assumption | exact fun h => h)
 have d100 : dueSp.d = 100 := rfl
 rw [d100] at hd hu
 refine zBd (e := f786) (n := 90) (led₁ := []) (led₂ := st.led) (zBY (cokD w) 90) (zSk _) okY hA hh (by lia) (by lia) R D hl' rfl trivial (fun x hx => by rw [List.mem_singleton.mp hx]; exact trivial) (by decide) ?_ T hR
 show ev (cfD w.params) 90 zAj (.sts (zAG s786)) ⟨duL (zAW pairs), [.cell none, .cell none]⟩ _
 rw [zOu, zDL]
 have h5 := zGf pairs [] 0
 have fin : ∀ (kv : Option SV) (N : Nat) (loc : List (Str × SV)) (rest : List SO) (so : SO), rest = [so, .tup [.obj 2, .str (Str.ofString (dueS pairs [] 0).2.1), .int ((dueS pairs [] 0).2.2 : Nat)]] → SubK st [] st.led k (.ret (.obj 5)) ⟨loc, [.cell kv, .cell (some (.obj 2)), .list (rsV (dueS pairs [] 0).1), .rng N] ++ rest⟩ := by
  rintro kv N loc rest so rfl
  refine ⟨.obj 5, _, [], .inl rfl, .frz (d := dueD pairs) (.tup (i := 5) (xs := [.obj 2, .str _, .int _]) rfl (by rw [sizeLine_eq]; show 3 ≤ 16777216; decide) (.cons (.list (i := 2) (xs := rsV _) rfl ?_ (zHe _ _)) (.cons (.str _) (.cons (.int _) .nil)))), .nil, hk⟩
  rw [zEN, sizeLine_eq]; rw [List.length_nil] at h5; lia
 refine ⟨by rw [sizeLine_eq]; lia, by lia, by rw [sizeLine_eq]; lia, ?_⟩
 have eN : ((pairs.length : Nat) : Int).toNat = pairs.length := rfl
 rw [eN]
 have z := zOt w.params pairs (zDH (fun st k => ev (cfD w.params) 88 zAj (.sts ((zAG s786).drop 2)) st k) (SubK st [] st.led k)) hok hlen pairs 0 [] none rfl (Nat.le_refl _) ⟨fun e kv => ?_, fun e kv j loc => ?_⟩
 ·rw [← List.range_eq_range'] at z; exact z
 ·rw [zBS, zRf, zDL]
  refine ⟨by rw [sizeLine_eq]; lia, ?_⟩
  have := fin kv pairs.length (duL (zAW pairs)) _ .gone rfl
  rw [e, zTF pairs [] 0 hok e, Nat.zero_add] at this
  exact this
 ·exact fin kv pairs.length loc _ _ rfl
noncomputable def s798 : Stmt := stAt 36 B01
noncomputable def f798 : FnE := ⟨798, 2, ["items", "pairs"], [], zAG s798, zAB s798, "_law_agrees", .ref 797, []⟩
theorem zSh (P : Params) : FnOk (KK P) f798 := FnOk.of (by kernel_rfl) (by kernel_rfl) ⟨_, _, _, _, (by kernel_rfl : (KK P).lookup 798 = some (o798 P)), rfl, rfl, fun _ _ => rfl, rfl, rfl, fun s vs X h => by
 obtain ⟨a, b, rfl⟩ := len2 h
 exact BindsTo.of_eq (by kernel_rfl)⟩
noncomputable def zBf : List (Str × NameKind) := (zAB s798).names
noncomputable def bo798 : List Stmt := zAG s798
noncomputable def gA : List (Str × Value) := [("_law_due", .ref 786), ("_law_told", .ref 793)]
theorem gokA (P : Params) : ∀ p ∈ gA, zCI (KK P) p := zAA ⟨by kernel_rfl, .inl (by kernel_rfl)⟩ <| zAA ⟨by kernel_rfl, .inl (by kernel_rfl)⟩ zAD
noncomputable abbrev cfA (P : Params) : Cf where
 K := KK P
 globs := gA
 fns := []
 cls := []
 sps := [dueSp, toldSp]
theorem cokA (w : World) : CfOk w (cfA w.params) := ⟨zAD, zAD, zAn (gokA _), zAA (zPm rfl rfl) <| zAA (zLD rfl rfl) zAD, zAD, zAD⟩
noncomputable abbrev agL (is ps : List PyData) : List (Str × SV) := [("items", .dat (.list is)), ("pairs", .dat (.list ps))]
noncomputable def cmpR : Expr → Expr
 | .Compare _ _ (r :: _) _ => r
 | _ => default
noncomputable def lcG : Expr := cmpR (zEk (stAt 0 bo798))
noncomputable def cnG : List (Str × NameKind) := zAu (lcSc lcG).names
theorem ag0 (P : Params) (is ps : List PyData) (k : Kt) : ev (cfA P) 120 zBf (.sts bo798) ⟨agL is ps, []⟩ k =
   zBQ (zAN cnG (zAm lcG)) none (fun st k => ev (cfA P) 116 cnG (.ex (zBH lcG)) st k) (.dat (.list ps)) (ps.map svOf) (.it true (.dat (.list ps))) 0 1 0 (ps.map svOf) ⟨[], [.it true (.dat (.list ps)) 0, .list []]⟩
     (fun stE => zAf (agL is ps) 0 1 stE fun y st₁ => cmpA 117 st₁ .NotEq (.dat (.list is)) y fun z => ifT z
        (ev (cfA P) 118 zBf (.sts (zCz (stAt 0 bo798))) st₁ (zDH (fun st k => ev (cfA P) 119 zBf (.sts (bo798.drop 1)) st k) k))
        (ev (cfA P) 119 zBf (.sts (bo798.drop 1)) st₁ k)) := by
  kernel_rfl
theorem zRo (P : Params) (p : List PyData) (l : List SO) (K : Kt) (D : St → Prop) : zAN cnG (zAm lcG) (.dat (.list p)) ⟨[], l⟩ (fun st₁ => zCA none st₁ fun c st₂ => ifT c (ev (cfA P) 116 cnG (.ex (zBH lcG)) st₂ K) (D st₂)) =
   (∃ ts : List Str, p = ts.map .str ∧ JoinOk "=" ts = true ∧ (Txt.join "=" ts).length ≤ sizeLine ∧ K (.v (.str (Txt.join "=" ts))) ⟨[("pair", .dat (.list p))], l⟩) := by
  kernel_rfl
noncomputable def tg798 : List Expr := match stAt 1 bo798 with
 | .Assign [.Tuple es _ _] _ _ => es
 | _ => []
theorem ag1 (P : Params) (is ps : List PyData) (k : Kt) : ev (cfA P) 119 zBf (.sts (bo798.drop 1)) ⟨agL is ps, []⟩ k =
   dueF [.dat (.list ps)] ⟨agL is ps, []⟩ (onV fun y st₁ => zAN zBf (.Tuple tg798 0 default) y st₁ fun st₂ => ev (cfA P) 118 zBf (.sts (bo798.drop 2)) st₂ k) := by
  kernel_rfl
noncomputable abbrev agS (is ps rs : List PyData) (f : Str) (n : Int) : List (Str × SV) := [("items", .dat (.list is)), ("pairs", .dat (.list ps)), ("rows", .dat (.list rs)), ("fault", .str f), ("sound", .int n)]
theorem zJf : tg798.length = 3 ∧ ∀ (is ps rs : List PyData) (f : Str) (n : Int) (K : St → Prop), zBn zBf tg798 [.dat (.list rs), .str f, .int n] ⟨agL is ps, []⟩ K = K ⟨agS is ps rs f n, []⟩ := ⟨by kernel_rfl, fun is ps rs f n K => by kernel_rfl⟩
noncomputable def boE : Expr := zEk (stAt 2 bo798)
noncomputable def cmp2 : Expr := kid boE [1]
theorem ag2 (P : Params) (is ps rs : List PyData) (f : Str) (n : Int) (k : Kt) : ev (cfA P) 118 zBf (.sts (bo798.drop 2)) ⟨agS is ps rs f n, []⟩ k =
   ifT (!Fast.sEq f "") (zIE [.dat (.list is)] ⟨agS is ps rs f n, []⟩ (onV fun y st₁ => ev (cfA P) 113 zBf (.ex (cmpR cmp2)) st₁ (onV fun z st₂ => cmpA 113 st₂ .NotEq y z fun c => ifT c
        (ev (cfA P) 116 zBf (.sts (zCz (stAt 2 bo798))) st₂ (zDH (fun st k => ev (cfA P) 117 zBf (.sts (bo798.drop 3)) st k) k))
        (ev (cfA P) 117 zBf (.sts (bo798.drop 3)) st₂ k))))
     (ev (cfA P) 117 zBf (.sts (bo798.drop 3)) ⟨agS is ps rs f n, []⟩ k) := by
  kernel_rfl
theorem zTP (P : Params) (is ps rs : List PyData) (f : Str) (n : Int) (l : List SO) (K : SV → St → Prop) : ev (cfA P) 113 zBf (.ex (cmpR cmp2)) ⟨agS is ps rs f n, l⟩ (onV K) =
   K (.obj (l ++ [SO.list []]).length) ⟨agS is ps rs f n, l ++ [.list []] ++ [.tup [.obj l.length, .str f]]⟩ := by
  kernel_rfl
noncomputable def ret3 : Expr := sEx (stAt 3 bo798)
theorem ag3 (P : Params) (is ps rs : List PyData) (f : Str) (n : Int) (l : List SO) (k : Kt) : ev (cfA P) 117 zBf (.sts (bo798.drop 3)) ⟨agS is ps rs f n, l⟩ k =
   zIE [.dat (.list (slD is none (some n)))] ⟨agS is ps rs f n, l⟩ (onV fun y st₁ => ev (cfA P) 114 zBf (.ex (cmpR ret3)) st₁ (onV fun z st₂ => cmpA 114 st₂ .Eq y z fun c => k (.ret (.bool c)) st₂)) := by
  kernel_rfl
theorem zRn (P : Params) (is ps rs : List PyData) (f : Str) (n : Int) (l : List SO) (K : SV → St → Prop) : ev (cfA P) 114 zBf (.ex (cmpR ret3)) ⟨agS is ps rs f n, l⟩ (onV K) =
   K (.obj l.length) ⟨agS is ps rs f n, l ++ [.tup [.dat (.list rs), .str ""]]⟩ := by
  kernel_rfl
noncomputable def quo (t : List Nat) : List Nat := 34 :: (t ++ [34])
theorem zNi (x : Str) (l : Option Int) : Txt.slice x l none = Txt.slice x l (some (x.length : Int)) := by
 unfold Txt.slice; rw [StrLaws.sliceIdx_none_hi]
theorem zNh (x : Str) (u : Option Int) : Txt.slice x none u = Txt.slice x (some 0) u := by
 unfold Txt.slice; rw [StrLaws.sliceIdx_none_lo]
theorem zJG (x : Str) (l : Option Int) {j : Int} (h0 : j < 0) (h1 : -(x.length : Int) ≤ j) : Txt.slice x l (some j) = Txt.slice x l (some (j + x.length)) := by
 unfold Txt.slice; rw [StrLaws.sliceIdx_neg_hi l x.length h0 h1]
theorem zNg (l : List Nat) {n : Nat} (h : n ≤ l.length) : Txt.slice (tx l) none (some (n : Int)) = tx (l.take n) := by
 rw [zNh]
 have := zDu l (a := 0) (b := n) (Nat.zero_le _) h
 rw [show (((0 : Nat) : Int)) = 0 from rfl] at this
 rw [this, List.drop_zero, Nat.sub_zero]
theorem zKB (l : List Nat) {n : Nat} (h : n ≤ l.length) : Txt.slice (tx l) (some (n : Int)) none = tx (l.drop n) := by
 rw [zNi, zAF, zDu l h (Nat.le_refl _)]
 have : l.length - n = (l.drop n).length := by rw [List.length_drop]
 rw [this, List.take_length]
theorem zGy (a z : Nat) (l : List Nat) : Txt.slice (tx (a :: (l ++ [z]))) (some 1) (some (-1)) = tx l := by
 rw [zJG _ _ (by lia) (by rw [zAF, List.length_cons]; lia), zAF]
 have e : (-1 : Int) + ((a :: (l ++ [z])).length : Nat) = ((l.length + 1 : Nat) : Int) := by
  simp only [List.length_cons, List.length_append, List.length_nil]; lia
 rw [e, show (1 : Int) = ((1 : Nat) : Int) from rfl, zDu _ (by lia) (by simp)]
 rw [List.drop_succ_cons, List.drop_zero, Nat.add_sub_cancel, List.take_left]
theorem zPv (c : Nat) (r : List Nat) : Txt.slice (tx (c :: r)) (some 1) none = tx r := by
 rw [show (1 : Int) = ((1 : Nat) : Int) from rfl, zKB _ (by simp)]; rfl
noncomputable def Thru (wr td : List Nat) : Prop := ∀ tail p res, hl (wr ++ tail) false false p res = hl tail false false (p ++ td) res
theorem zCK : ∀ w : List Nat, (∀ c ∈ w, c ≠ 34 ∧ c ≠ 44) → Thru w w
 | [], _, tail, p, res => by rw [List.nil_append, List.append_nil]
 | c :: r, h, tail, p, res => by
  obtain ⟨h1, h2⟩ := h c (.head _)
  rw [List.cons_append]
  conv => lhs; unfold hl
  rw [if_neg (by decide), if_neg (by decide), if_neg h2, if_neg h1]
  rw [zCK r (fun d hd => h d (.tail _ hd)) tail (p ++ [c]) res, List.append_assoc]; rfl
theorem zGB {a b c d : List Nat} (h1 : Thru a b) (h2 : Thru c d) : Thru (a ++ c) (b ++ d) := fun tail p res => by
 rw [List.append_assoc, h1, h2, List.append_assoc]
theorem zMi {s : List Nat} (hs : s = [] ∨ s = [32]) : ∀ (r : List (List Nat × List Nat)) (x : List Nat × List Nat) (p : List Nat) (res : List (List Nat)), (∀ y ∈ x :: r, Thru y.1 y.2) →
  ∃ a z, hl (zAU (44 :: s) ((x :: r).map (·.1))) false false p res = (res ++ a, z) ∧ a ++ [z] = (p ++ x.2) :: r.map fun y => s ++ y.2
 | [], x, p, res, h => by
  refine ⟨[], p ++ x.2, ?_, rfl⟩
  have := h x (.head _) [] p res
  rw [List.append_nil] at this
  show hl x.1 false false p res = _
  rw [this, List.append_nil]; rfl
 | y :: r, x, p, res, h => by
  obtain ⟨a, z, h1, h2⟩ := zMi hs r y s (res ++ [p ++ x.2]) fun u hu => h u (.tail _ hu)
  refine ⟨(p ++ x.2) :: a, z, ?_, ?_⟩
  ·show hl (x.1 ++ (44 :: (s ++ zAU (44 :: s) ((y :: r).map (·.1))))) false false p res = _
   rw [h x (.head _)]
   conv => lhs; unfold hl
   rw [if_neg (by decide), if_neg (by decide), if_pos rfl]
   have e : hl (s ++ zAU (44 :: s) ((y :: r).map (·.1))) false false [] (res ++ [p ++ x.2]) = hl (zAU (44 :: s) ((y :: r).map (·.1))) false false s (res ++ [p ++ x.2]) := by
    rcases hs with rfl | rfl
    ·rfl
    ·exact zCK [32] (fun c hc => by rw [List.mem_singleton.mp hc]; decide) _ _ _
   rw [e, h1, List.append_assoc]; rfl
  ·rw [List.cons_append, h2]; rfl
noncomputable def zIA (y : List Nat) : Prop := (∃ c r, y = c :: r ∧ Unicode.isSpace c = false) ∧ (∃ r z, y = r ++ [z] ∧ Unicode.isSpace z = false)
theorem zIz {y : List Nat} (h : zIA y) : (y.reverse.takeWhile Unicode.isSpace).length = 0 := by
 obtain ⟨_, r, z, rfl, hz⟩ := h
 rw [List.reverse_append]
 show (List.takeWhile _ (z :: r.reverse)).length = 0
 rw [List.takeWhile_cons, hz]; rfl
theorem zEH {y : List Nat} (h : zIA y) : Txt.strip (tx y) = tx y := by
 obtain ⟨⟨c, r, e, hc⟩, _⟩ := id h
 have lo : stripLo Unicode.isSpace true (tx y) = 0 := by
  show ((tx y).cps.toList.takeWhile Unicode.isSpace).length = 0
  rw [zAv, e, List.takeWhile_cons, hc]; rfl
 have hi : stripHi Unicode.isSpace true (tx y) 0 = (tx y).length := by
  show (tx y).length - (((tx y).cps.toList.drop 0).reverse.takeWhile Unicode.isSpace).length = _
  rw [zAv, List.drop_zero, zIz h]; rfl
 have : stripSame Unicode.isSpace true true (tx y) = true := by
  unfold stripSame
  rw [lo, hi]; simp
 show Txt.stripBy Unicode.isSpace true true (tx y) = _
 unfold Txt.stripBy
 rw [if_pos this]
theorem zIM {y : List Nat} (h : zIA y) : Txt.strip (tx (32 :: y)) = tx y := by
 obtain ⟨⟨c, r, e, hc⟩, _⟩ := id h
 have h32 : Unicode.isSpace 32 = true := by decide +kernel
 have lo : stripLo Unicode.isSpace true (tx (32 :: y)) = 1 := by
  show ((tx (32 :: y)).cps.toList.takeWhile Unicode.isSpace).length = 1
  rw [zAv, List.takeWhile_cons, h32, e]
  simp [hc]
 have hi : stripHi Unicode.isSpace true (tx (32 :: y)) 1 = (tx (32 :: y)).length := by
  show (tx (32 :: y)).length - (((tx (32 :: y)).cps.toList.drop 1).reverse.takeWhile Unicode.isSpace).length = _
  rw [zAv]
  show _ - ((y.reverse.takeWhile Unicode.isSpace).length) = _
  rw [zIz h]; rfl
 have : stripSame Unicode.isSpace true true (tx (32 :: y)) = false := by
  unfold stripSame
  rw [lo]; rfl
 show Txt.stripBy Unicode.isSpace true true (tx (32 :: y)) = _
 unfold Txt.stripBy
 rw [if_neg (by rw [this]; decide)]
 unfold PySem.stripped
 rw [lo, hi]
 refine zDY ?_
 rw [StrLaws.strSub_toList, zAv, zAF]
 show List.take _ y = y
 rw [List.length_cons, Nat.add_sub_cancel, List.take_length]
theorem zEl {s : List Nat} (hs : s = [] ∨ s = [32]) (l : List (List Nat × List Nat)) (h : ∀ y ∈ l, Thru y.1 y.2) (ht : ∀ y ∈ l, zIA y.2) :
  zBy (zAU (44 :: s) (l.map (·.1))) = l.map fun y => tx y.2 := by
 cases l with
 | nil => rfl
 | cons x r =>
  obtain ⟨a, z, h1, h2⟩ := zMi hs r x [] [] h
  rw [List.nil_append] at h1 h2
  have hz : z ≠ [] := by
   have hm : z ∈ x.2 :: r.map fun y => s ++ y.2 := by rw [← h2]; simp
   rcases List.mem_cons.mp hm with e | hm
   ·obtain ⟨⟨c, q, e2, _⟩, _⟩ := ht x (.head _)
    rw [e, e2]; exact List.cons_ne_nil _ _
   ·obtain ⟨y, hy, e⟩ := List.mem_map.mp hm
    obtain ⟨⟨c, q, e2, _⟩, _⟩ := ht y (.tail _ hy)
    rw [← e, e2]
    exact fun q => List.cons_ne_nil _ _ (List.append_eq_nil_iff.mp q).2
  have hp : zBl (zAU (44 :: s) ((x :: r).map (·.1))) = x.2 :: r.map fun y => s ++ y.2 := by
   unfold zBl
   rw [h1]
   dsimp only
   rw [if_neg hz, h2]
  unfold zBy
  rw [hp, List.map_cons, List.map_cons, zEH (ht x (.head _)), List.map_map]
  congr 1
  refine List.map_congr_left fun y hy => ?_
  rcases hs with rfl | rfl
  ·exact zEH (ht y (.tail _ hy))
  ·exact zIM (ht y (.tail _ hy))
theorem zGv (x : Str) : 1 ≤ PySem.Builtin.Str.strKind x := by
 unfold PySem.Builtin.Str.strKind
 split
 ·exact Nat.le_refl _
 ·split <;> decide
theorem zEJ (key v : List Nat) (hk : 61 ∉ key) : Txt.splitMax (tx (key ++ 61 :: v)) "=" 1 = [tx key, tx v] := by
 have e1 : ("=" : Str) = (⟨#[61]⟩ : Str) := by rfl
 have hlen : (tx (key ++ 61 :: v)).length = key.length + 1 + v.length := by rw [zAF]; simp; lia
 rw [e1]
 unfold Txt.splitMax
 have h1 : (decide ((tx (key ++ 61 :: v)).length < (⟨#[61]⟩ : Str).length) || decide (PySem.Builtin.Str.strKind (tx (key ++ 61 :: v)) < PySem.Builtin.Str.strKind ⟨#[61]⟩)) = false := by
  have a : ¬ (tx (key ++ 61 :: v)).length < (⟨#[61]⟩ : Str).length := by rw [hlen]; show ¬ _ < 1; lia
  have b : ¬ PySem.Builtin.Str.strKind (tx (key ++ 61 :: v)) < PySem.Builtin.Str.strKind ⟨#[61]⟩ := by
   have := zGv (tx (key ++ 61 :: v))
   have e : PySem.Builtin.Str.strKind ⟨#[61]⟩ = 1 := by decide +kernel
   rw [e]; lia
  rw [decide_eq_false a, decide_eq_false b]; rfl
 rw [if_neg (by rw [h1]; decide)]
 have hlim : PySem.limitOf (tx (key ++ 61 :: v)) 1 = 1 := by rfl
 rw [hlim]
 have at_iff : ∀ i, StrLaws.At (tx (key ++ 61 :: v)) ⟨#[61]⟩ (tx (key ++ 61 :: v)).length i ↔ (key ++ 61 :: v)[i]? = some 61 := fun i => by
  have := StrLaws.subAt_one (tx (key ++ 61 :: v)) 61 i
  rw [zAv] at this
  exact this
 have hat : (key ++ 61 :: v)[key.length]? = some 61 := by simp
 have hnot : ∀ i, i < key.length → (key ++ 61 :: v)[i]? ≠ some 61 := fun i hi e => by
  rw [List.getElem?_append_left hi] at e
  exact hk (List.mem_of_getElem? e)
 have hone := StrLaws.occ_length_le (tx (key ++ 61 :: v)) ⟨#[61]⟩ 0 (tx (key ++ 61 :: v)).length 1
 rcases StrLaws.occ_head (tx (key ++ 61 :: v)) ⟨#[61]⟩ 1 (Nat.le_refl 1) with ⟨_, hn⟩ | ⟨i, r, ho, ha, hn⟩
 ·exact absurd ((at_iff _).mpr hat) (hn _)
 ·rw [ho] at hone
  have hr : r = [] := List.eq_nil_of_length_eq_zero (by rw [List.length_cons] at hone; lia)
  have hi : i = key.length := by
   rcases Nat.lt_trichotomy i key.length with q | q | q
   ·exact absurd ((at_iff i).mp ha) (hnot i q)
   ·exact q
   ·exact absurd ((at_iff _).mpr hat) (hn _ q)
  subst hr hi
  rw [ho]
  rw [if_neg (by simp)]
  show [PySem.Builtin.Str.strSub (tx (key ++ 61 :: v)) 0 key.length, PySem.Builtin.Str.strSub (tx (key ++ 61 :: v)) (key.length + 1) (tx (key ++ 61 :: v)).length] = _
  have s1 : PySem.Builtin.Str.strSub (tx (key ++ 61 :: v)) 0 key.length = tx key := by
   refine zDY ?_
   rw [StrLaws.strSub_toList, zAv, List.drop_zero, Nat.sub_zero, List.take_left]
  have s2 : PySem.Builtin.Str.strSub (tx (key ++ 61 :: v)) (key.length + 1) (tx (key ++ 61 :: v)).length = tx v := by
   refine zDY ?_
   rw [StrLaws.strSub_toList, zAv]
   have : (key ++ 61 :: v).drop (key.length + 1) = v := by
    rw [← List.drop_drop, List.drop_left]; rfl
   rw [this, hlen, List.take_of_length_le (by lia)]
  rw [s1, s2]
theorem zDR (c : Nat) (r : List Nat) : Txt.item (tx (c :: r)) 0 = tx [c] := by
 unfold Txt.item Txt.charAt
 have : seqIndex? 0 (tx (c :: r)).length = some 0 := by
  rw [zAF]
  unfold seqIndex?
  simp
 rw [this]
 show (⟨#[((tx (c :: r)).cps[0]?).getD 0]⟩ : Str) = _
 simp [tx]
theorem zEj (r : List Nat) (z : Nat) : Txt.item (tx (r ++ [z])) (-1) = tx [z] := by
 unfold Txt.item Txt.charAt
 have : seqIndex? (-1) (tx (r ++ [z])).length = some r.length := by
  rw [StrLaws.seqIndex_neg (by lia) (by rw [zAF, List.length_append]; simp; lia), zAF]
  simp
  lia
 rw [this]
 show (⟨#[((tx (r ++ [z])).cps[r.length]?).getD 0]⟩ : Str) = _
 simp [tx]
theorem zPt (t : List Nat) : unq (tx (quo t)) = tx t := by
 unfold unq quo
 have e1 : Txt.item (tx (34 :: (t ++ [34]))) 0 = tx [34] := zDR _ _
 have e2 : Txt.item (tx (34 :: (t ++ [34]))) (-1) = tx [34] := zEj (34 :: t) 34
 have e3 : Fast.sEq (tx [34]) "\"" = true := by rfl
 rw [e1, e2, e3]
 exact zGy 34 34 t
theorem zQy : ("\"" : Str) = ⟨#[34]⟩ := by rfl
theorem zNI (l : List Nat) (i : Nat) (b : Bool) (hb : b = decide (l[i]? = some 34)) : (decide (i + ("\"" : Str).length ≤ (tx l).length) && PySem.Builtin.Str.subAt (tx l) "\"" i) = b := by
 have h := StrLaws.subAt_one (tx l) 34 i
 rw [zAv, ← zQy] at h
 rw [hb, Bool.eq_iff_iff, Bool.and_eq_true, decide_eq_true_iff, h, decide_eq_true_iff]
theorem zJC (c : Nat) (r : List Nat) : Txt.startswith (tx (c :: r)) "\"" = decide (c = 34) := zNI (c :: r) 0 _ (by simp)
theorem zPl (r : List Nat) (z : Nat) : Txt.endswith (tx (r ++ [z])) "\"" = decide (z = 34) := by
 have h := zNI (r ++ [z]) r.length (decide (z = 34)) (by simp)
 have e : (tx (r ++ [z])).length - ("\"" : Str).length = r.length := by
  rw [zAF, List.length_append]; rfl
 unfold Txt.endswith
 rw [e]
 have h1 : r.length + ("\"" : Str).length ≤ (tx (r ++ [z])).length := by
  rw [zAF, List.length_append]; exact Nat.le_refl _
 rw [decide_eq_true h1, Bool.true_and] at h
 rw [h, decide_eq_true (show 0 + ("\"" : Str).length ≤ (tx (r ++ [z])).length by lia)]
 rfl
theorem zMU (c : Nat) : Fast.sEq (tx [c]) "\"" = decide (c = 34) := zNp c 34
noncomputable def offM (l : List Nat) : List Nat := match l with
 | [] => []
 | c :: r => if c = 34 then match r.getLast? with
  | none => []
  | some z => if z = 34 then r.dropLast else l
  else l
theorem zGS (c : Nat) : offM [c] = if c = 34 then [] else [c] := rfl
theorem zGR (a z : Nat) (m : List Nat) : offM (a :: (m ++ [z])) = if a = 34 then (if z = 34 then m else a :: (m ++ [z])) else a :: (m ++ [z]) := by
 unfold offM
 dsimp only
 rw [List.getLast?_append, List.dropLast_concat]; rfl
theorem ends (l : List Nat) (h : l ≠ []) : (∃ c, l = [c]) ∨ ∃ a m z, l = a :: (m ++ [z]) := by
 cases l with
 | nil => exact absurd rfl h
 | cons a r =>
  rcases List.eq_nil_or_concat r with rfl | ⟨m, z, rfl⟩
  ·exact .inl ⟨a, rfl⟩
  ·exact .inr ⟨a, m, z, by rw [List.concat_eq_append]⟩
theorem zLA (l : List Nat) (h : l ≠ []) : unq2 (tx l) = tx (offM l) := by
 unfold unq2
 rcases ends l h with ⟨c, rfl⟩ | ⟨a, m, z, rfl⟩
 ·have e := zPl [] c
  rw [List.nil_append] at e
  rw [zJC, e, zGS]
  by_cases hc : c = 34
  ·rw [hc]; rfl
  ·rw [decide_eq_false hc, if_neg hc]
 ·have e := zPl (a :: m) z
  rw [List.cons_append] at e
  rw [zJC, e, zGR]
  by_cases ha : a = 34
  ·rw [decide_eq_true ha, if_pos ha]
   by_cases hz : z = 34
   ·rw [decide_eq_true hz, if_pos hz]
    show Txt.slice (Txt.slice (tx (a :: (m ++ [z]))) (some 1) none) none (some (-1)) = _
    rw [zPv, zJG _ _ (by lia) (by rw [zAF, List.length_append]; show -((m.length + 1 : Nat) : Int) ≤ -1; lia), zAF]
    have e : (-1 : Int) + ((m ++ [z]).length : Nat) = ((m.length : Nat) : Int) := by
     rw [List.length_append]; show -1 + ((m.length + 1 : Nat) : Int) = _; lia
    rw [e, zNg _ (by rw [List.length_append]; lia), List.take_left]
   ·rw [decide_eq_false hz, if_neg hz]
  ·rw [decide_eq_false ha, if_neg ha]
theorem zRr (l : List Nat) (h : l ≠ []) : unq (tx l) = tx (offM l) := by
 unfold unq
 rcases ends l h with ⟨c, rfl⟩ | ⟨a, m, z, rfl⟩
 ·have e := zEj [] c
  rw [List.nil_append] at e
  rw [zDR, e, zMU, zGS]
  by_cases hc : c = 34
  ·rw [hc]; rfl
  ·rw [decide_eq_false hc, if_neg hc]
 ·have e := zEj (a :: m) z
  rw [List.cons_append] at e
  rw [zDR, e, zMU, zMU, zGR]
  by_cases ha : a = 34
  ·rw [decide_eq_true ha, if_pos ha]
   by_cases hz : z = 34
   ·rw [decide_eq_true hz, if_pos hz]; exact zGy a z m
   ·rw [decide_eq_false hz, if_neg hz]
  ·rw [decide_eq_false ha, if_neg ha]
theorem zOF (l : List Nat) : ∀ c ∈ offM l, c ∈ l := by
 intro c hc
 by_cases h : l = []
 ·rw [h] at hc; cases hc
 ·rcases ends l h with ⟨d, rfl⟩ | ⟨a, m, z, rfl⟩
  ·rw [zGS] at hc
   split at hc
   ·cases hc
   ·exact hc
  ·rw [zGR] at hc
   split at hc
   ·split at hc
    ·exact .tail _ (List.mem_append_left _ hc)
    ·exact hc
   ·exact hc
theorem zIB (s : Str) : tx s.cps.toList = s := (zDY rfl).symm
theorem zMB {v : Str} (h : v.length ≠ 0) : v.cps.toList ≠ [] := fun e => h (by have := congrArg List.length e; simpa [Str.length] using this)
theorem zIw {v : Str} (h : v.length ≠ 0) : unq v = unq2 v := by
 have a := zRr _ (zMB h)
 rw [← zLA _ (zMB h), zIB] at a
 exact a
theorem strOk_of {s : Str} : PyData.strOk s = true ↔ ∀ c ∈ s.cps.toList, c < 0x110000 := by
 unfold PyData.strOk
 rw [← Array.all_toList, List.all_eq_true]
 exact ⟨fun h c hc => of_decide_eq_true (h c hc), fun h c hc => decide_eq_true (h c hc)⟩
theorem zFU {v : Str} (h : v.length ≠ 0) (ok : PyData.strOk v = true) : PyData.strOk (unq2 v) = true := by
 have a := zLA _ (zMB h)
 rw [zIB] at a
 rw [a]
 refine strOk_of.mpr fun c hc => ?_
 rw [zAv] at hc
 exact strOk_of.mp ok c (zOF _ c hc)
inductive AgP : List Str → Prop
 | one {a : Str} : a.length ≤ 1000 → PyData.strOk a = true → Txt.splitMax a "=" 1 = [a] → AgP [a]
 | two {a v : Str} : a.length ≤ 1000 → v.length ≤ 1000 → PyData.strOk a = true → PyData.strOk v = true → Txt.splitMax (Txt.join "=" [a, v]) "=" 1 = [a, v] → AgP [a, v]
noncomputable def jn (p : List Str) : Str := Txt.join "=" p
theorem zJZ (a : Str) : jn [a] = a := by
 show Txt.join "=" [a] = a
 rw [zGn]; rfl
theorem zMR (a v : Str) : jn [a, v] = a ++ "=" ++ v := by
 show Txt.join "=" [a, v] = _
 rw [zGn]; rfl
theorem zBF (a b : Str) : (a ++ b).length = a.length + b.length := by
 show (a.cps ++ b.cps).size = _
 rw [Array.size_append]; rfl
theorem zSY (a v : Str) : (jn [a, v]).length = a.length + 1 + v.length := by
 rw [zMR, zBF, zBF]; rfl
theorem AgP.ok {p : List Str} (h : AgP p) : zFH p := by
 cases h with
 | one h1 _ _ => exact .inl ⟨_, rfl, by lia⟩
 | two h1 h2 _ _ _ => exact .inr ⟨_, _, rfl, by lia, by lia⟩
theorem AgP.len {p : List Str} (h : AgP p) : (jn p).length ≤ 3000 := by
 cases h with
 | one h1 _ _ => rw [zJZ]; lia
 | two h1 h2 _ _ _ => rw [zSY]; lia
theorem zGw {a b : Str} (h1 : PyData.strOk a = true) (h2 : PyData.strOk b = true) : PyData.strOk (a ++ b) = true := by
 refine strOk_of.mpr fun c hc => ?_
 have e : (a ++ b).cps.toList = a.cps.toList ++ b.cps.toList := by
  show (a.cps ++ b.cps).toList = _
  exact Array.toList_append
 rw [e] at hc
 rcases List.mem_append.mp hc with h | h
 ·exact strOk_of.mp h1 c h
 ·exact strOk_of.mp h2 c h
theorem AgP.lay {p : List Str} (h : AgP p) : PyData.strOk (jn p) = true := by
 cases h with
 | one _ h2 _ => rw [zJZ]; exact h2
 | two _ _ h3 h4 _ => rw [zMR]; exact zGw (zGw h3 (by decide +kernel)) h4
theorem cut (pairs : List (List Str)) : ∀ (rows : List (Str × Str)) (n : Nat), (∀ p ∈ pairs, AgP p) →
  ∃ good kvs tail f, pairs = good ++ tail ∧ KvOk (good.map jn) kvs ∧ dueS pairs rows n = (dput kvs rows, f, n + good.length) ∧ ((f = "" ∧ tail = []) ∨ ∃ e rest, tail = e :: rest ∧ BadE (jn e) f) := by
 induction pairs with
 | nil => exact fun rows n _ => ⟨[], [], [], "", rfl, .nil, rfl, .inl ⟨rfl, rfl⟩⟩
 | cons p r ih =>
  intro rows n h
  have hp := h p (.head _)
  have hlen := hp.len
  cases hp with
  | one h1 h2 h3 => exact ⟨[], [], _, "ValueError", rfl, .nil, rfl, .inr ⟨_, _, rfl, .few (by rw [zJZ]; exact h3) (by lia)⟩⟩
  | @two a v h1 h2 h3 h4 h5 =>
   cases q : Fast.sEq v "" with
   | true =>
    refine ⟨[], [], _, "IndexError", rfl, .nil, ?_, .inr ⟨_, _, rfl, .none (k := a) ?_ (by lia)⟩⟩
    ·show (match Fast.sEq v "" with | true => _ | false => _) = _
     rw [q]; rfl
    ·rw [← zAO q]; exact h5
   | false =>
    have hv : v.length ≠ 0 := fun e => zAZ q (Fast.sEq_iff.mp (by
     have : v = tx [] := zDY (List.eq_nil_of_length_eq_zero (by simpa [Str.length] using e))
     rw [this]; rfl))
    obtain ⟨good, kvs, tail, f, e1, e2, e3, e4⟩ := ih (put a (unq2 v) rows) (n + 1) fun x hx => h x (.tail _ hx)
    refine ⟨[a, v] :: good, (a, v) :: kvs, tail, f, by rw [e1]; rfl, .cons h5 hv (by lia) (by lia) (by lia) e2, ?_, e4⟩
    show (match Fast.sEq v "" with | true => _ | false => dueS r (put a (unq2 v) rows) (n + 1)) = _
    rw [q]
    show dueS r (put a (unq2 v) rows) (n + 1) = (dput kvs (put a (unq v) rows), f, n + (good.length + 1))
    rw [e3, zIw hv, show n + 1 + good.length = n + (good.length + 1) by lia]
noncomputable def zIv (p : Str × Str) : Prop := PyData.strOk p.1 = true ∧ PyData.strOk p.2 = true
theorem zJb {Pk Pv : Str → Prop} (pairs : List (List Str)) : ∀ (rows : List (Str × Str)) (n : Nat), (∀ p ∈ pairs, ∀ a v r, p = a :: v :: r → v.length ≠ 0 → Pk a ∧ Pv (unq2 v)) → (∀ p ∈ rows, Pk p.1 ∧ Pv p.2) → ∀ p ∈ (dueS pairs rows n).1, Pk p.1 ∧ Pv p.2 := by
 induction pairs with
 | nil => exact fun rows n _ h => h
 | cons p r ih =>
  intro rows n h hr
  cases p with
  | nil => exact hr
  | cons a q =>
   cases q with
   | nil => exact hr
   | cons v q =>
    show ∀ p ∈ (match Fast.sEq v "" with | true => (rows, "IndexError", n) | false => dueS r (put a (unq2 v) rows) (n + 1)).1, Pk p.1 ∧ Pv p.2
    cases e : Fast.sEq v "" with
    | true => exact hr
    | false =>
     have hv : v.length ≠ 0 := fun e2 => zAZ e (by
      have : v = tx [] := zDY (List.eq_nil_of_length_eq_zero (by simpa [Str.length] using e2))
      rw [this]; rfl)
     obtain ⟨ha, hv2⟩ := h _ (.head _) a v q rfl hv
     refine ih _ _ (fun x hx => h x (.tail _ hx)) fun p hp => ?_
     rcases zGM hp with hp | ⟨h1, h2⟩
     ·exact hr p hp
     ·refine ⟨?_, by rw [h1]; exact hv2⟩
      rcases h2 with h2 | ⟨z, hz, h2⟩
      ·rw [h2]; exact ha
      ·rw [← h2]; exact (hr z hz).1
theorem zOw (pairs : List (List Str)) (h : ∀ p ∈ pairs, AgP p) : ∀ p ∈ (dueS pairs [] 0).1, zIv p := zJb (Pk := fun a => PyData.strOk a = true) (Pv := fun v => PyData.strOk v = true) pairs [] 0 (fun p hp a v r e hv => by
 have hp := h p hp
 rw [e] at hp
 cases hp with
 | two _ _ h3 h4 _ => exact ⟨h3, zFU hv h4⟩) fun p hp => nomatch hp
theorem zIb : ∀ {l : List PyData}, (∀ x ∈ l, PyData.canLay0 x = true) → PyData.canLayAll0 l = true
 | [], _ => rfl
 | x :: r, h => by
  show (PyData.canLay0 x && PyData.canLayAll0 r) = true
  rw [h x (.head _), zIb fun y hy => h y (.tail _ hy)]; rfl
theorem zEx {n : Nat} : ∀ {l : List PyData}, (∀ x ∈ l, PyData.depth x ≤ n) → PyData.depthAll l ≤ n
 | [], _ => Nat.zero_le _
 | x :: r, h => by
  show max (PyData.depth x) (PyData.depthAll r) ≤ n
  exact Nat.max_le.mpr ⟨h x (.head _), zEx fun y hy => h y (.tail _ hy)⟩
theorem zOS {l : List Str} (h : ∀ x ∈ l, PyData.strOk x = true) : PyData.canLay0 (.list (l.map .str)) = true := zIb fun x hx => by
 obtain ⟨y, hy, rfl⟩ := List.mem_map.mp hx
 exact h y hy
theorem zKk (l : List Str) : PyData.depth (.list (l.map .str)) ≤ 1 := by
 rw [PyData.depth]
 have : PyData.depthAll (l.map .str) ≤ 0 := zEx fun x hx => by
  obtain ⟨y, hy, rfl⟩ := List.mem_map.mp hx
  exact Nat.zero_le _
 lia
noncomputable abbrev tlD (rows : List (Str × Str)) (f : Str) : PyData := .tuple [.list (zAd rows), .str f]
theorem zSR {rows : List (Str × Str)} {f : Str} (h : ∀ p ∈ rows, zIv p) (hf : PyData.strOk f = true) : PyData.canLay0 (tlD rows f) = true := by
 have h1 : PyData.canLay0 (.list (zAd rows)) = true := zIb fun x hx => by
  obtain ⟨y, hy, rfl⟩ := List.mem_map.mp hx
  show (PyData.strOk y.1 && (PyData.strOk y.2 && true)) = true
  rw [(h y hy).1, (h y hy).2]; rfl
 show (PyData.canLay0 (.list (zAd rows)) && (PyData.strOk f && true)) = true
 rw [h1, hf]; rfl
theorem zOy (rows : List (Str × Str)) (f : Str) : PyData.depth (tlD rows f) ≤ 60 := by
 have h1 : PyData.depthAll (zAd rows) ≤ 1 := zEx fun x hx => by
  obtain ⟨y, hy, rfl⟩ := List.mem_map.mp hx
  exact Nat.le_refl _
 have h2 : PyData.depth (.list (zAd rows)) ≤ 2 := by rw [PyData.depth]; lia
 have h3 : PyData.depthAll [.list (zAd rows), .str f] ≤ 2 := by
  show max (PyData.depth (.list (zAd rows))) (max 0 0) ≤ 2
  lia
 show PyData.depth (.tuple _) ≤ 60
 rw [PyData.depth]; lia
theorem zSA (ds : List PyData) (lo hi : Option Int) : slD ds lo hi = (ds.drop (lo.elim 0 (PySem.clipAt ds.length))).take (hi.elim ds.length (PySem.clipAt ds.length) - lo.elim 0 (PySem.clipAt ds.length)) := by
 unfold slD
 rw [PySem.sliceBounds_plain]
 dsimp only
 rw [PySem.sliceRange_one, List.filterMap_map]
 generalize lo.elim 0 (PySem.clipAt ds.length) = a
 generalize hi.elim ds.length (PySem.clipAt ds.length) - a = n
 have key : ∀ (n a : Nat) (ds : List PyData), (List.range n).filterMap ((fun x => ds[x]?) ∘ fun x => a + x) = (ds.drop a).take n := by
  intro n
  induction n with
  | zero => intro a ds; rfl
  | succ n ih =>
   intro a ds
   rw [List.range_succ, List.filterMap_append, ih, List.take_add_one]
   congr 1
   rw [List.getElem?_drop]
   cases h : ds[a + n]? <;> simp [h]
 exact key n a ds
theorem zPC (n a : Nat) : PySem.clipAt n (a : Int) = min a n := PySem.clipAt_nat n a
theorem zGG (ds : List PyData) (n : Nat) : slD ds none (some (n : Int)) = ds.take n := by
 rw [zSA]
 show ((ds.drop 0).take (PySem.clipAt ds.length (n : Int) - 0)) = _
 rw [zPC, List.drop_zero, Nat.sub_zero]
 rw [List.take_eq_take_iff]
 lia
theorem zGO (K : SV → St → Prop) (y : SV) (st : St) : onV K (.v y) st = K y st := rfl
theorem zIq (n : Nat) (st : St) (d : PyData) (y : SV) (k : Bool → Prop) : cmpA n st .NotEq (.dat d) y k = eqD n st (.dat d) y fun c => k (!c) := rfl
theorem zBa {α : Type} {bnd : SV → St → (St → Prop) → Prop} {elt : St → Kt → Prop} {pre : List SO} (loc : List (Str × SV)) (kk : SV → St → Prop) (l : List α) (dd f : α → PyData) (hpre : ∀ n led, pre.length ≤ n → SosT n led pre pre) (hloc : okF pre.length loc) (hlen : l.length ≤ 1000000)
  (step : ∀ x led (K : Kt) (D : St → Prop), x ∈ l → (∀ more, K (.v (svOf (f x))) ⟨more, led⟩) → bnd (svOf (dd x)) ⟨[], led⟩ fun st₁ => zCA none st₁ fun c st₂ => ifT c (elt st₂ K) (D st₂))
  (hk : kk (.dat (.list (l.map f))) ⟨loc, pre⟩) :
  zBQ bnd none elt (.dat (.list (l.map dd))) ((l.map dd).map svOf) (.it true (.dat (.list (l.map dd)))) pre.length (pre.length + 1) 0 ((l.map dd).map svOf) ⟨[], pre ++ [.it true (.dat (.list (l.map dd))) 0, .list []]⟩ (fun stE => zAf loc pre.length (pre.length + 1) stE kk) := by
 have hL : ((l.map dd).map svOf).length = l.length := by rw [List.length_map, List.length_map]
 refine zGh (pre := pre) (fl := []) (src := .dat (.list (l.map dd))) (all := (l.map dd).map svOf) (slot := .it true (.dat (.list (l.map dd)))) loc kk (fun i => (l[i]?).map f) hpre trivial hloc (fun _ _ _ _ => .it (.same trivial)) (fun a b => rfl) (by rw [hL, sizeLine_eq]; lia) (fun i x zs K Dd hx hK' hD => ?_) ?_
 ·rw [List.map_map, List.getElem?_map, Option.map_eq_some_iff] at hx
  obtain ⟨c, hc, rfl⟩ := hx
  exact step c _ K Dd (List.mem_of_getElem? hc) fun more => hK' (f c) (by rw [hc]; rfl) more []
 ·rw [hL, zCG]; exact hk
noncomputable def zFF (svs : List SV) (st : St) (k : Kt) : Prop := on2 svs fun x y => onD x fun d => onD y fun e => ∃ pairs : List (List Str), d = .list ((pairs.map jn).map .str) ∧ e = .list (zAW pairs) ∧ (∀ p ∈ pairs, AgP p) ∧ pairs.length ≤ 100 ∧ k (.v (.bool true)) st
noncomputable def agreesSp : SpE := ⟨798, 2, 140, zFF⟩
theorem zGl {svs : List SV} {st : St} {k : Kt} (h : zFF svs st k) : ∃ pairs : List (List Str), svs = [.dat (.list ((pairs.map jn).map .str)), .dat (.list (zAW pairs))] ∧ (∀ p ∈ pairs, AgP p) ∧ pairs.length ≤ 100 ∧ k (.v (.bool true)) st := by
 obtain ⟨x, y, rfl, h⟩ := zGP h
 obtain ⟨d, rfl, h⟩ := zCQ h
 obtain ⟨e, rfl, pairs, rfl, rfl, a⟩ := zCQ h
 exact ⟨pairs, rfl, a⟩
theorem zMS {p : List Str} (h : AgP p) : JoinOk "=" p = true := by
 refine zCx ?_
 have e : ("=" : Str).length = 1 := rfl
 rw [e]
 cases h with
 | one h1 _ _ => simp; lia
 | two h1 h2 _ _ _ => simp; lia
theorem zDr {n : Nat} {st : St} {i : Nat} {rows : List (Str × Str)} {f : Str} {k : Bool → Prop} (h : frzD 4 st.led (.obj i) = some (tlD rows f)) (hn : 8 ≤ n) (hr : ∀ p ∈ rows, zIv p) (hf : PyData.strOk f = true) (hk : k true) : eqD n st (.dat (tlD rows f)) (.obj i) k := by
 have l := zSR hr hf
 refine zMu (d := tlD rows f) (e := tlD rows f) rfl h hn l l (by have := zOy rows f; lia) ?_
 rw [PySem.SeqAt.eqv_refl _ l]; exact hk
theorem zNN (P : Params) {is ps : List PyData} {rows : List (Str × Str)} {f : Str} {n : Int} {l : List SO} {k : Kt} {elts : List Str} (h1 : slD is none (some n) = elts.map .str) (h2 : Told elts (tlD rows "")) (hr : ∀ p ∈ rows, zIv p)
  (hk : k (.ret (.bool true)) ⟨agS is ps (zAd rows) f n, l ++ [.tup [.dat (.list (zAd rows)), .str ""]]⟩) : ev (cfA P) 117 zBf (.sts (bo798.drop 3)) ⟨agS is ps (zAd rows) f n, l⟩ k := by
 rw [ag3]
 refine ⟨elts, _, h1, h2, ?_⟩
 rw [zGO, zRn, zIr]
 refine zDr ?_ (by decide) hr (by decide +kernel) hk
 have e : (l ++ [SO.tup [.dat (.list (zAd rows)), .str ""]])[l.length]? = some (.tup [.dat (.list (zAd rows)), .str ""]) := by simp
 show (match seqO (l ++ [SO.tup [.dat (.list (zAd rows)), .str ""]])[l.length]? with | none => _ | some bx => _) = _
 rw [e]; rfl
theorem zNM {w : World} {C : Cf} (hK : C.K = KK w.params) (hC : C.known = true) : SpOk w C agreesSp := by
 refine ⟨by rw [hK]; kernel_rfl, ?_⟩
 intro F A ads st s svs vs k Q Rr ok hA hh hd hu h R D hl' T hR
 replace hA : true = true → A.frames = some F.stk := fun _ => hA hC
 obtain ⟨pairs, rfl, hok, hlen, hk⟩ := zGl h
 have okY : FmOk (cfA w.params) F := zAY hK.symm ok (by first | exact fun _ => rfl | exact fun _ => by assumption | exact fun h => h)
 have d140 : agreesSp.d = 140 := rfl
 rw [d140] at hd hu
 refine zBd (e := f798) (n := 120) (led₁ := []) (led₂ := st.led) (zBY (cokA w) 120) (zSh _) okY hA hh (by lia) (by lia) R D hl' rfl trivial (fun x hx => by rcases List.mem_cons.mp hx with rfl | hx; exact trivial; rw [List.mem_singleton.mp hx]; exact trivial) List.nodup_nil ?_ T hR
 show ev (cfA w.params) 120 zBf (.sts bo798) ⟨agL ((pairs.map jn).map .str) (zAW pairs), []⟩ _
 rw [ag0]
 refine zBa (pre := []) (agL ((pairs.map jn).map .str) (zAW pairs)) _ pairs (fun p => .list (p.map .str)) (fun p => .str (jn p)) (fun _ _ _ => .nil) ⟨trivial, trivial, trivial⟩ (by lia) (fun p led K Dd hp hK' => ?_) ?_
 ·have hpo := hok p hp
  show zAN cnG (zAm lcG) (.dat (.list (p.map .str))) ⟨[], led⟩ _
  rw [zRo]
  refine ⟨p, rfl, zMS hpo, ?_, hK' _⟩
  have := hpo.len
  unfold jn at this
  rw [sizeLine_eq]; lia
 ·have e1 : (pairs.map fun p => PyData.str (jn p)) = (pairs.map jn).map .str := by rw [List.map_map]; rfl
  rw [e1, zIq]
  have l1 : PyData.canLay0 (.list ((pairs.map jn).map .str)) = true := zOS fun x hx => by
   obtain ⟨p, hp, rfl⟩ := List.mem_map.mp hx
   exact (hok p hp).lay
  refine zMu rfl rfl (by decide) l1 l1 (by have := zKk (pairs.map jn); lia) ?_
  rw [PySem.SeqAt.eqv_refl _ l1]
  show ev (cfA w.params) 119 zBf (.sts (bo798.drop 1)) ⟨agL ((pairs.map jn).map .str) (zAW pairs), []⟩ _
  rw [ag1]
  refine ⟨pairs, rfl, fun p hp => (hok p hp).ok, hlen, ?_⟩
  refine ⟨false, [.dat (.list (zAd (dueS pairs [] 0).1)), .str (Str.ofString (dueS pairs [] 0).2.1), .int ((dueS pairs [] 0).2.2 : Nat)], rfl, zJf.1.symm, ?_⟩
  rw [zJf.2, ag2]
  obtain ⟨good, kvs, tail, f, g1, g2, g3, g4⟩ := cut pairs [] 0 hok
  have hrow := zOw pairs hok
  rw [g3] at hrow ⊢
  replace hrow : ∀ p ∈ dput kvs [], zIv p := hrow
  show ifT (!Fast.sEq (Str.ofString f) "") (zIE [.dat (.list ((pairs.map jn).map .str))] ⟨agS ((pairs.map jn).map .str) (zAW pairs) (zAd (dput kvs [])) (Str.ofString f) ((0 + good.length : Nat) : Int), []⟩ _) _
  have htk : slD ((pairs.map jn).map .str) none (some ((0 + good.length : Nat) : Int)) = (good.map jn).map .str := by
   rw [zGG, Nat.zero_add, g1, List.map_append, List.map_append]
   have : good.length = ((good.map jn).map PyData.str).length := by simp
   rw [this, List.take_left]
  have hgl : (good.map jn).length ≤ 1000001 := by
   have := congrArg List.length g1
   rw [List.length_append] at this
   rw [List.length_map]; lia
  have htold : Told (good.map jn) (tlD (dput kvs []) "") := .good g2 hgl
  have fin : ∀ l : List SO, SubK st [] st.led k (.ret (.bool true)) ⟨agS ((pairs.map jn).map .str) (zAW pairs) (zAd (dput kvs [])) (Str.ofString f) ((0 + good.length : Nat) : Int), l⟩ := fun l => ⟨.bool true, .bool true, [], .inl rfl, .same trivial, .nil, hk⟩
  refine zAk (fun q => ?_) fun _ => zNN w.params htk htold hrow (fin _)
  have hbad : Told (pairs.map jn) (tlD [] (Str.ofString f)) := by
   rcases g4 with ⟨rfl, _⟩ | ⟨e, rest, rfl, hb⟩
   ·exact Bool.noConfusion (show false = true from q)
   ·refine .bad ⟨good.map jn, kvs, jn e, rest.map jn, by rw [g1, List.map_append]; rfl, g2, hb, by rw [List.length_map]; lia⟩
  have hfo : PyData.strOk (Str.ofString f) = true := by
   rcases g4 with ⟨rfl, _⟩ | ⟨e, rest, rfl, hb⟩
   ·decide +kernel
   ·cases hb <;> decide +kernel
  refine ⟨_, _, rfl, hbad, ?_⟩
  rw [zGO, zTP, zIq]
  refine zDr rfl (by decide) (fun p hp => nomatch hp) hfo ?_
  exact zNN w.params htk htold hrow (fin _)
noncomputable def s781 : Stmt := stAt 33 B01
noncomputable def f781 : FnE := ⟨781, 1, ["x"], [], zAG s781, zAB s781, "_law_setting", .ref 780, []⟩
theorem zSl (P : Params) : FnOk (KK P) f781 := FnOk.of (by kernel_rfl) (by kernel_rfl) ⟨_, _, _, _, (by kernel_rfl : (KK P).lookup 781 = some (o781 P)), rfl, rfl, fun _ _ => rfl, rfl, rfl, fun s vs X h => by
 obtain ⟨a, rfl⟩ := len1 h
 exact BindsTo.of_eq (by kernel_rfl)⟩
noncomputable def zAg : List (Str × NameKind) := (zAB s781).names
noncomputable def bo781 : List Stmt := zAG s781
noncomputable def gS : List (Str × Value) := [("range", .type "range"), ("_law_marked", .ref 776)]
theorem gokS (P : Params) : ∀ p ∈ gS, zCI (KK P) p := zAA ⟨by kernel_rfl, .inr ⟨by kernel_rfl, by kernel_rfl, by kernel_rfl⟩⟩ <| zAA ⟨by kernel_rfl, .inl (by kernel_rfl)⟩ zAD
noncomputable abbrev cfSe (P : Params) : Cf where
 K := KK P
 globs := gS
 fns := []
 cls := []
 sps := [markedSp]
theorem zTy (w : World) : CfOk w (cfSe w.params) := ⟨zAD, zAD, zAn (gokS _), zAA (zHJ rfl rfl) zAD, zAD, zAD⟩
noncomputable def tg781 : List Expr := match stAt 0 bo781 with
 | .Assign [.Tuple es _ _] _ _ => es
 | _ => []
noncomputable def ktb : List SO := [.tup [.str "a", .str "a"], .tup [.str "B", .str "B"], .tup [.str "", .str ""], .tup [.str "\"b c\"", .str "b c"], .tup [.str "a\"\"", .str "a"], .list [.obj 0, .obj 1, .obj 2, .obj 3, .obj 4]]
theorem se0 (P : Params) (x : Int) (k : Kt) : ev (cfSe P) 120 zAg (.sts bo781) ⟨[("x", .int x)], []⟩ k =
   (((8 : Int) ≠ 0 ∧ (8 : Int).natAbs < 1073741824) ∧ ((5 : Int) ≠ 0 ∧ (∃ y, idxP [.obj 0, .obj 1, .obj 2, .obj 3, .obj 4] ((x.fdiv 8).fmod 5) y ∧ zAN zAg (.Tuple tg781 0 default) y ⟨[("x", .int x)], ktb⟩ fun st₂ => ev (cfSe P) 119 zAg (.sts (bo781.drop 1)) st₂ k))) := by
  kernel_rfl
theorem zJK : tg781.length = 2 ∧ ∀ (x : Int) (a b : Str) (l : List SO) (K : St → Prop), zBn zAg tg781 [.str a, .str b] ⟨[("x", .int x)], l⟩ K = K ⟨[("x", .int x), ("key", .str a), ("shell_key", .str b)], l⟩ := ⟨by kernel_rfl, fun x a b l K => by kernel_rfl⟩
noncomputable abbrev seA (x : Int) (a b : Str) (more : List (Str × SV)) : List (Str × SV) := ("x", .int x) :: ("key", .str a) :: ("shell_key", .str b) :: more
theorem se1 (P : Params) (x : Int) (a b : Str) (l : List SO) (k : Kt) : ev (cfSe P) 119 zAg (.sts (bo781.drop 1)) ⟨seA x a b [], l⟩ k =
   ((8 : Int) ≠ 0 ∧ (((40 : Int) ≠ 0 ∧ (40 : Int).natAbs < 1073741824) ∧ ev (cfSe P) 117 zAg (.sts (bo781.drop 3)) ⟨seA x a b [("shape", .int (x.fmod 8)), ("more", .int (x.fdiv 40))], l⟩ k)) := by
  kernel_rfl
noncomputable abbrev seB (x : Int) (a b : Str) (s m : Int) (more : List (Str × SV)) : List (Str × SV) := seA x a b (("shape", .int s) :: ("more", .int m) :: more)
theorem se3 (P : Params) (x : Int) (a b : Str) (s m : Int) (k : Kt) : ev (cfSe P) 117 zAg (.sts (bo781.drop 3)) ⟨seB x a b s m [], ktb⟩ k =
   ifT (s == 6) ((2 : Int) ≠ 0 ∧ ifT (m.fmod 2 == 0) (k (.ret (.obj 8)) ⟨seB x a b s m [], ktb ++ [.list [.str "x"], .list [.str "x"], .tup [.str "x", .obj 6, .obj 7]]⟩)
        (k (.ret (.obj 8)) ⟨seB x a b s m [], ktb ++ [.list [.str "\"a", .str "7\""], .list [.str "a", .str "7"], .tup [.str "\"a=7\"", .obj 6, .obj 7]]⟩))
     (ev (cfSe P) 116 zAg (.sts (bo781.drop 4)) ⟨seB x a b s m [], ktb⟩ k) := by
  kernel_rfl
theorem se4 (P : Params) (x : Int) (a b : Str) (s m : Int) (k : Kt) : ev (cfSe P) 116 zAg (.sts (bo781.drop 4)) ⟨seB x a b s m [], ktb⟩ k =
   ifT (s == 7) ((3 : Int) ≠ 0 ∧ ifT (m.fmod 3 == 0) (a.length + ("=" : Str).length ≤ sizeLine ∧ k (.ret (.obj 8)) ⟨seB x a b s m [], ktb ++ [.list [.str a, .str ""], .list [.str b, .str ""], .tup [.str (a ++ "="), .obj 6, .obj 7]]⟩)
        (ev (cfSe P) 115 zAg (.sts (bo781.drop 5)) ⟨seB x a b s m [], ktb⟩ k))
     (ev (cfSe P) 115 zAg (.sts (bo781.drop 5)) ⟨seB x a b s m [], ktb⟩ k) := by
  kernel_rfl
noncomputable def zIn : Stmt := stAt 6 bo781
noncomputable abbrev seC (x : Int) (a b : Str) (s m : Int) (v : Str) (more : List (Str × SV)) : List (Str × SV) := seB x a b s m (("value", .str v) :: more)
theorem se5 (P : Params) (x : Int) (a b : Str) (s m : Int) (k : Kt) : ev (cfSe P) 115 zAg (.sts (bo781.drop 5)) ⟨seB x a b s m [], ktb⟩ k =
   ((4 : Int) ≠ 0 ∧ (0 ≤ m.fmod 4 ∧ (m.fmod 4).toNat ≤ sizeLine ∧ forE (zAN zAg (zAs zIn)) (fun st k => ev (cfSe P) 112 zAg (.sts (zAT zIn)) st k) (.obj 6) ((List.range (m.fmod 4).toNat).map fun (j : Nat) => SV.int (j : Int)) (.itr (m.fmod 4).toNat) 7 0 ((List.range (m.fmod 4).toNat).map fun (j : Nat) => SV.int (j : Int))
     ⟨seC x a b s m "" [], ktb ++ [.rng (m.fmod 4).toNat, .itr (m.fmod 4).toNat 0]⟩ (zDH (fun st k => ev (cfSe P) 113 zAg (.sts (bo781.drop 7)) st k) k))) := by
  kernel_rfl
noncomputable def alpha : Str := "a\"\\', =\n"
theorem zQd (P : Params) (x : Int) (a b : Str) (s m t : Int) (v : Str) (l : List SO) (k : Kt) : zAN zAg (zAs zIn) (.int t) ⟨seC x a b s m v [], l⟩ (fun st₁ => ev (cfSe P) 112 zAg (.sts (zAT zIn)) st₁ k) =
   (((8 : Int) ≠ 0 ∧ (8 : Int).natAbs < 1073741824) ∧ ((8 : Int) ≠ 0 ∧ (-(alpha.length : Int) ≤ (m.fdiv 8).fmod 8 ∧ (m.fdiv 8).fmod 8 < alpha.length ∧ (v.length + (Txt.item alpha ((m.fdiv 8).fmod 8)).length ≤ sizeLine ∧
     k .next ⟨seC x a b s (m.fdiv 8) (v ++ Txt.item alpha ((m.fdiv 8).fmod 8)) [("turn", .int t)], l⟩)))) := by
  kernel_rfl
noncomputable def ktl (N : Nat) : List SO := ktb ++ [.rng N, .gone]
noncomputable def ib781 : List Stmt := zCz (stAt 7 bo781)
theorem se6 (P : Params) (x : Int) (a b : Str) (s m : Int) (v : Str) (l : List SO) (k : Kt) : ev (cfSe P) 113 zAg (.sts (bo781.drop 7)) ⟨seC x a b s m v [], l⟩ k =
   ifT (s == 3) (ev (cfSe P) 111 zAg (.sts ib781) ⟨seC x a b s m v [], l⟩ (zDH (fun st k => ev (cfSe P) 112 zAg (.sts (bo781.drop 8)) st k) k))
     (ev (cfSe P) 112 zAg (.sts (bo781.drop 8)) ⟨seC x a b s m v [], l⟩ k) := by
  kernel_rfl
noncomputable def lcR : Expr := arg0 (binR (binL (asV (stAt 0 ib781))))
noncomputable def cnR : List (Str × NameKind) := zAu (lcSc lcR).names
noncomputable def lcK : Expr := arg0 (asV (stAt 1 ib781))
noncomputable def cnK : List (Str × NameKind) := zAu (lcSc lcK).names
theorem se6a (P : Params) (x : Int) (a b : Str) (s m : Int) (v : Str) (N : Nat) (k : Kt) : ev (cfSe P) 111 zAg (.sts ib781) ⟨seC x a b s m v [], ktl N⟩ k =
   zBQ (zAN cnR (zAm lcR)) none (fun st k => ev (cfSe P) 102 cnR (.ex (zBH lcR)) st k) (.str v) (v.cps.toList.map fun c => .str (sgS c)) (.it true (.str v)) 8 9 0 (v.cps.toList.map fun c => .str (sgS c)) ⟨[], ktl N ++ [.it true (.str v) 0, .list []]⟩
    (fun stE => zAf (seC x a b s m v []) 8 9 stE fun y st₁ => glue y st₁ fun t =>
      ("\"" : Str).length + t.length ≤ sizeLine ∧ (("\"" ++ t).length + ("\"" : Str).length ≤ sizeLine ∧ ev (cfSe P) 110 zAg (.sts (ib781.drop 1)) ⟨put "raw" (.str ("\"" ++ t ++ "\"")) st₁.loc, st₁.led⟩ k)) := by
  kernel_rfl
theorem se6b (P : Params) (x : Int) (a b : Str) (s m : Int) (v r : Str) (N : Nat) (k : Kt) : ev (cfSe P) 110 zAg (.sts (ib781.drop 1)) ⟨seC x a b s m v [("raw", .str r)], ktl N⟩ k =
   zBQ (zAN cnK (zAm lcK)) none (fun st k => ev (cfSe P) 103 cnK (.ex (zBH lcK)) st k) (.str v) (v.cps.toList.map fun c => .str (sgS c)) (.it true (.str v)) 8 9 0 (v.cps.toList.map fun c => .str (sgS c)) ⟨[], ktl N ++ [.it true (.str v) 0, .list []]⟩
    (fun stE => zAf (seC x a b s m v [("raw", .str r)]) 8 9 stE fun y st₁ => glue y st₁ fun t => ev (cfSe P) 109 zAg (.sts (ib781.drop 2)) ⟨put "kept" (.str t) st₁.loc, st₁.led⟩ k) := by
  kernel_rfl
theorem se6c (P : Params) (x : Int) (a b : Str) (s m : Int) (v r q : Str) (N : Nat) (k : Kt) : ev (cfSe P) 109 zAg (.sts (ib781.drop 2)) ⟨seC x a b s m v [("raw", .str r), ("kept", .str q)], ktl N⟩ k =
   (a.length + ("=" : Str).length ≤ sizeLine ∧ ((a ++ "=").length + r.length ≤ sizeLine ∧ (("\"" : Str).length + v.length ≤ sizeLine ∧ (("\"" ++ v).length + ("\"" : Str).length ≤ sizeLine ∧
     k (.ret (.obj 10)) ⟨seC x a b s m v [("raw", .str r), ("kept", .str q)], ktl N ++ [.list [.str a, .str ("\"" ++ v ++ "\"")], .list [.str b, .str q], .tup [.str (a ++ "=" ++ r), .obj 8, .obj 9]]⟩)))) := by
  kernel_rfl
theorem zQg (P : Params) (x : Str) (l : List SO) (k : Kt) (D : St → Prop) : zAN cnR (zAm lcR) (.str x) ⟨[], l⟩ (fun st₁ => zCA none st₁ fun c st₂ => ifT c (ev (cfSe P) 102 cnR (.ex (zBH lcR)) st₂ k) (D st₂)) =
   (("\\" : Str).length + x.length ≤ sizeLine ∧ k (.v (.str ("\\" ++ x))) ⟨[("sign", .str x)], l⟩) := by
  kernel_rfl
theorem zQh (P : Params) (x : Str) (l : List SO) (k : Kt) (D : St → Prop) : zAN cnK (zAm lcK) (.str x) ⟨[], l⟩ (fun st₁ => zCA none st₁ fun c st₂ => ifT c (ev (cfSe P) 103 cnK (.ex (zBH lcK)) st₂ k) (D st₂)) =
   ifT (inB x "\"\\") (k (.v (.str x)) ⟨[("sign", .str x)], l⟩) (("\\" : Str).length + x.length ≤ sizeLine ∧ k (.v (.str ("\\" ++ x))) ⟨[("sign", .str x)], l⟩) := by
  kernel_rfl
theorem se8 (P : Params) (x : Int) (a b : Str) (s m : Int) (v : Str) (l : List SO) (k : Kt) : ev (cfSe P) 112 zAg (.sts (bo781.drop 8)) ⟨seC x a b s m v [], l⟩ k =
   ifT (s == 4) (ev (cfSe P) 111 zAg (.sts (bo781.drop 9)) ⟨seC x a b s m v [("ahead", .str "7")], l⟩ k) (ev (cfSe P) 111 zAg (.sts (bo781.drop 9)) ⟨seC x a b s m v [("ahead", .str "")], l⟩ k) := by
  kernel_rfl
theorem se9 (P : Params) (x : Int) (a b : Str) (s m : Int) (v h : Str) (l : List SO) (k : Kt) : ev (cfSe P) 111 zAg (.sts (bo781.drop 9)) ⟨seC x a b s m v [("ahead", .str h)], l⟩ k =
   ifT (s == 5) (ev (cfSe P) 110 zAg (.sts (bo781.drop 10)) ⟨seC x a b s m v [("ahead", .str h), ("behind", .str "7")], l⟩ k) (ev (cfSe P) 110 zAg (.sts (bo781.drop 10)) ⟨seC x a b s m v [("ahead", .str h), ("behind", .str "")], l⟩ k) := by
  kernel_rfl
theorem se10 (P : Params) (x : Int) (a b : Str) (s m : Int) (v h e : Str) (l : List SO) (k : Kt) : ev (cfSe P) 110 zAg (.sts (bo781.drop 10)) ⟨seC x a b s m v [("ahead", .str h), ("behind", .str e)], l⟩ k =
   (a.length + ("=" : Str).length ≤ sizeLine ∧ ((a ++ "=").length + h.length ≤ sizeLine ∧ (v.length ≤ 1000000 ∧ ((a ++ "=" ++ h).length + (tx (zBV v.cps.toList)).length ≤ sizeLine ∧ ((a ++ "=" ++ h ++ tx (zBV v.cps.toList)).length + e.length ≤ sizeLine ∧
     ev (cfSe P) 109 zAg (.sts (bo781.drop 11)) ⟨seC x a b s m v [("ahead", .str h), ("behind", .str e), ("raw", .str (a ++ "=" ++ h ++ tx (zBV v.cps.toList) ++ e))], l⟩ k))))) := by
  kernel_rfl
theorem se11 (P : Params) (x : Int) (a b : Str) (s m : Int) (v h e r : Str) (N : Nat) (k : Kt) : ev (cfSe P) 109 zAg (.sts (bo781.drop 11)) ⟨seC x a b s m v [("ahead", .str h), ("behind", .str e), ("raw", .str r)], ktl N⟩ k =
   (h.length + ("\"" : Str).length ≤ sizeLine ∧ ((h ++ "\"").length + v.length ≤ sizeLine ∧ ((h ++ "\"" ++ v).length + ("\"" : Str).length ≤ sizeLine ∧ ((h ++ "\"" ++ v ++ "\"").length + e.length ≤ sizeLine ∧ (h.length + v.length ≤ sizeLine ∧ ((h ++ v).length + e.length ≤ sizeLine ∧
     k (.ret (.obj 10)) ⟨seC x a b s m v [("ahead", .str h), ("behind", .str e), ("raw", .str r)], ktl N ++ [.list [.str a, .str (h ++ "\"" ++ v ++ "\"" ++ e)], .list [.str b, .str (h ++ v ++ e)], .tup [.str r, .obj 8, .obj 9]]⟩)))))) := by
  kernel_rfl
noncomputable def zDZ (i : Int) : Nat := alpha.cps.toList.getD i.toNat 0
theorem zKc (i : Int) (h0 : 0 ≤ i) (h1 : i < 8) : Txt.item alpha i = sgS (zDZ i) := by
 have key : ∀ n : Fin 8, Txt.item alpha (n.1 : Int) = sgS (zDZ (n.1 : Int)) := by decide +kernel
 have := key ⟨i.toNat, (Int.toNat_lt h0).mpr h1⟩
 rwa [Int.toNat_of_nonneg h0] at this
theorem zNL : (alpha.length : Int) = 8 := by rfl
noncomputable def valN : Nat → Int → List Nat
 | 0, _ => []
 | n + 1, m => zDZ ((m.fdiv 8).fmod 8) :: valN n (m.fdiv 8)
theorem zFz : ∀ (n : Nat) (m : Int), (valN n m).length = n
 | 0, _ => rfl
 | n + 1, m => by show (valN n _).length + 1 = _; rw [zFz n]
noncomputable def ktab (i : Nat) : List Nat × List Nat := match i with
 | 0 => ([97], [97])
 | 1 => ([66], [66])
 | 2 => ([], [])
 | 3 => ([34, 98, 32, 99, 34], [98, 32, 99])
 | _ => ([97, 34, 34], [97])
noncomputable def escA (l : List Nat) : List Nat := l.flatMap fun c => [92, c]
noncomputable def zEg (c : Nat) : List Nat := if c = 34 ∨ c = 92 then [c] else [92, c]
noncomputable def zIf (l : List Nat) : List Nat := l.flatMap zEg
noncomputable abbrev Se := List Nat × List (List Nat) × List (List Nat)
noncomputable def setV (k : List Nat × List Nat) (s : Int) (v : List Nat) : Se :=
 if s = 3 then (k.1 ++ [61] ++ ([34] ++ escA v ++ [34]), [k.1, [34] ++ v ++ [34]], [k.2, zIf v])
 else
  let h := if s = 4 then [55] else []
  let e := if s = 5 then [55] else []
  (k.1 ++ [61] ++ h ++ zBV v ++ e, [k.1, h ++ [34] ++ v ++ [34] ++ e], [k.2, h ++ v ++ e])
noncomputable def setT (k : List Nat × List Nat) (s m : Int) : Se :=
 if s = 6 then (if m.fmod 2 = 0 then ([120], [[120]], [[120]]) else ([34, 97, 61, 55, 34], [[34, 97], [55, 34]], [[97], [55]]))
 else if s = 7 ∧ m.fmod 3 = 0 then (k.1 ++ [61], [k.1, []], [k.2, []])
 else setV k s (valN (m.fmod 4).toNat m)
noncomputable def setN (x : Int) : Se := setT (ktab ((x.fdiv 8).fmod 5).toNat) (x.fmod 8) (x.fdiv 40)
noncomputable def setD (e : Se) : PyData := .tuple [.str (tx e.1), .list (e.2.1.map fun t => .str (tx t)), .list (e.2.2.map fun t => .str (tx t))]
theorem zGZ (led : List SO) : ∀ l : List (List Nat), FrzL led (l.map fun t => SV.str (tx t)) (l.map fun t => .str (tx t))
 | [] => .nil
 | _ :: r => .cons (.str _) (zGZ led r)
theorem zLf {st : St} {k : Kt} {loc : List (Str × SV)} {led : List SO} {j p q : Nat} (e : Se) (h1 : led[j]? = some (.tup [.str (tx e.1), .obj p, .obj q])) (h2 : led[p]? = some (.list (e.2.1.map fun t => .str (tx t)))) (h3 : led[q]? = some (.list (e.2.2.map fun t => .str (tx t))))
  (l1 : e.2.1.length ≤ 2) (l2 : e.2.2.length ≤ 2) (hk : k (.v (.dat (setD e))) st) : SubK st [] st.led k (.ret (.obj j)) ⟨loc, led⟩ := by
 have sm : ∀ {n : Nat}, n ≤ 3 → n ≤ sizeLine := fun h => by rw [sizeLine_eq]; lia
 refine ⟨.obj j, .dat (setD e), [], .inl rfl, .frz (d := setD e) (.tup h1 (sm (by show 3 ≤ 3; decide)) (.cons (.str _) (.cons (.list h2 (sm ?_) (zGZ _ _)) (.cons (.list h3 (sm ?_) (zGZ _ _)) .nil)))), .nil, hk⟩
 ·rw [List.length_map]; lia
 ·rw [List.length_map]; lia
theorem zLU (n : Nat) (led : List SO) (hn : 8 ≤ n) (t t' : List SO) (h : SosT n led t t') : SosT n led (ktb ++ t) (ktb ++ t') := by
 have s : ∀ {a b : Str}, SoT n led (.tup [.str a, .str b]) (.tup [.str a, .str b]) := .tup (.cons (.same trivial) (.cons (.same trivial) .nil))
 have o : ∀ {i : Nat}, i < 8 → SvT n led (.obj i) (.obj i) := fun h => .keep (by lia)
 exact .cons s (.cons s (.cons s (.cons s (.cons s (.cons (.list (.cons (o (by decide)) (.cons (o (by decide)) (.cons (o (by decide)) (.cons (o (by decide)) (.cons (o (by decide)) .nil)))))) h)))))
theorem zIX (x : Int) (a b : Str) (s m : Int) (v : Str) {more : List (Str × SV)} (h : okF 8 more) : okF 8 (seC x a b s m v more) := ⟨trivial, trivial, trivial, trivial, trivial, trivial, h⟩
theorem zQf (P : Params) (x : Int) (a b : Str) (s : Int) (all : List SV) (N : Nat) (hall : all = (List.range N).map fun (j : Nat) => SV.int (j : Int)) (k : Kt) : ∀ (rest : List Nat) (j : Nat) (m : Int) (v : List Nat), v.length + rest.length ≤ 1000 →
  (∀ m', k .next ⟨seC x a b s m' (tx (v ++ valN rest.length m)) [], ktl N⟩) →
  forE (zAN zAg (zAs zIn)) (fun st k => ev (cfSe P) 112 zAg (.sts (zAT zIn)) st k) (.obj 6) all (.itr N) 7 j (rest.map fun (j : Nat) => SV.int (j : Int))
   ⟨seC x a b s m (tx v) [], ktb ++ [.rng N, .itr N j]⟩ k := by
 intro rest
 induction rest with
 | nil =>
  intro j m v h hk
  refine ⟨rfl, by rw [hall]; rfl, ?_⟩
  have := hk m
  rw [List.length_nil] at this
  show k .next ⟨seC x a b s m (tx v) [], ktl N⟩
  have e : v ++ valN 0 m = v := List.append_nil v
  rw [e] at this; exact this
 | cons t r ih =>
  intro j m v h hk
  rw [List.length_cons] at h hk
  refine ⟨rfl, by rw [hall]; rfl, ?_⟩
  show zAN zAg (zAs zIn) (.int t) ⟨seC x a b s m (tx v) [], ktb ++ [.rng N, .itr N (j + 1)]⟩ _
  rw [zQd, zNL]
  have h0 : 0 ≤ (m.fdiv 8).fmod 8 := Int.fmod_nonneg_of_pos _ (by decide)
  have h1 : (m.fdiv 8).fmod 8 < 8 := Int.fmod_lt_of_pos _ (by decide)
  rw [zKc _ h0 h1]
  refine ⟨⟨by decide, by decide⟩, by decide, by lia, h1, by rw [zAF, zBU, sizeLine_eq]; lia, ⟨seC x a b s (m.fdiv 8) (tx (v ++ [zDZ ((m.fdiv 8).fmod 8)])) [], ktb ++ [.rng N, .itr N (j + 1)]⟩, ?_, ?_⟩
  ·rw [← zEB, zAL]
   exact zCJ (n := 8) (loc := seC x a b s (m.fdiv 8) (tx (v ++ [zDZ ((m.fdiv 8).fmod 8)])) []) (more := [("turn", .int t)]) (zIX _ _ _ _ _ _ trivial) (zLU _ _ (Nat.le_refl _) _ _ (.cons .rng (.cons .itr .nil)))
  ·refine ih (j + 1) (m.fdiv 8) (v ++ [zDZ ((m.fdiv 8).fmod 8)]) (by simp; lia) fun m' => ?_
   have e : v ++ [zDZ ((m.fdiv 8).fmod 8)] ++ valN r.length (m.fdiv 8) = v ++ valN (r.length + 1) m := by
    rw [List.append_assoc]; rfl
   rw [e]; exact hk m'
theorem q34 : ("\"" : Str) = tx [34] := by rfl
theorem q61 : ("=" : Str) = tx [61] := by rfl
theorem q92 (c : Nat) : ("\\" : Str) ++ sgS c = tx [92, c] := by
 rw [zCY, ← zEB, ← zEB, zAL]; rfl
theorem zQo (x : Int) (a b : Str) (s m : Int) (v r : Str) : put "raw" (.str r) (seC x a b s m v []) = seC x a b s m v [("raw", .str r)] := by kernel_rfl
theorem zOD (x : Int) (a b : Str) (s m : Int) (v r q : Str) : put "kept" (.str q) (seC x a b s m v [("raw", .str r)]) = seC x a b s m v [("raw", .str r), ("kept", .str q)] := by kernel_rfl
theorem zGe : ∀ l : List Nat, (escA l).length ≤ 2 * l.length
 | [] => Nat.le_refl _
 | c :: r => by
  have := zGe r
  show (92 :: c :: escA r).length ≤ 2 * (r.length + 1)
  simp only [List.length_cons]; lia
theorem zEf : ∀ l : List Nat, (zIf l).length ≤ 2 * l.length
 | [] => Nat.le_refl _
 | c :: r => by
  have := zEf r
  show (zEg c ++ zIf r).length ≤ 2 * (r.length + 1)
  have h : (zEg c).length ≤ 2 := by
   unfold zEg
   split
   ·exact Nat.le_succ 1
   ·exact Nat.le_refl 2
  rw [List.length_append]; lia
theorem szN {n : Nat} (h : n ≤ 100000) : n ≤ sizeLine := by rw [sizeLine_eq]; lia
theorem zJD (N n : Nat) (led : List SO) (hn : 8 ≤ n) : SosT n led (ktl N) (ktl N) := zLU n led hn _ _ (.cons .rng (.cons .gone .nil))
theorem zLb (P : Params) {x s m : Int} {N : Nat} {K : List Nat × List Nat} {v h e : List Nat} {st : St} {k : Kt} (h1 : K.1.length ≤ 10) (h2 : K.2.length ≤ 10) (hv : v.length ≤ 10) (hh : h.length ≤ 1) (he : e.length ≤ 1)
  (hk : k (.v (.dat (setD (K.1 ++ [61] ++ h ++ zBV v ++ e, [K.1, h ++ [34] ++ v ++ [34] ++ e], [K.2, h ++ v ++ e])))) st) :
  ev (cfSe P) 110 zAg (.sts (bo781.drop 10)) ⟨seC x (tx K.1) (tx K.2) s m (tx v) [("ahead", .str (tx h)), ("behind", .str (tx e))], ktl N⟩ (SubK st [] st.led k) := by
 have hm : (zBV v).length ≤ 30 := by
  have := zDC v
  unfold zBV
  simp only [List.length_cons, List.length_append, List.length_nil]; lia
 rw [se10, zAv, q61]
 simp only [zAL, zAF, List.length_append, List.length_cons, List.length_nil]
 refine ⟨szN (by lia), szN (by lia), by lia, szN (by lia), szN (by lia), ?_⟩
 rw [se11, q34]
 simp only [zAL, zAF, List.length_append, List.length_cons, List.length_nil]
 refine ⟨szN (by lia), szN (by lia), szN (by lia), szN (by lia), szN (by lia), szN (by lia), ?_⟩
 exact zLf (p := 8) (q := 9) (K.1 ++ [61] ++ h ++ zBV v ++ e, [K.1, h ++ [34] ++ v ++ [34] ++ e], [K.2, h ++ v ++ e]) rfl rfl rfl (Nat.le_refl _) (Nat.le_refl _) hk
theorem zSE (P : Params) {x s m : Int} {N : Nat} {K : List Nat × List Nat} {v : List Nat} {st : St} {k : Kt} (h1 : K.1.length ≤ 10) (h2 : K.2.length ≤ 10) (hv : v.length ≤ 10) (hk : k (.v (.dat (setD (setV K s v)))) st) :
  ev (cfSe P) 113 zAg (.sts (bo781.drop 7)) ⟨seC x (tx K.1) (tx K.2) s m (tx v) [], ktl N⟩ (SubK st [] st.led k) := by
 unfold setV at hk
 rw [se6]
 refine zAk (fun q => ?_) fun q => ?_
 ·rw [if_pos (eq_of_beq q)] at hk
  rw [se6a, zAv]
  refine zDI (pre := ktl N) (seC x (tx K.1) (tx K.2) s m (tx v) []) _ v (fun c => [92, c]) (zJD N) (zIX _ _ _ _ _ _ trivial) (by lia) (fun c led K D h => ?_) ?_
  ·rw [zQg, q92]
   exact ⟨szN (by rw [zBU]; show 1 + 1 ≤ _; decide), h⟩
  ·have hea := zGe v
   have hke := zEf v
   refine zIm (by show (escA v).length ≤ _; lia) ?_
   rw [show v.flatMap (fun c => [92, c]) = escA v from rfl]
   dsimp only
   rw [zQo, q34]
   simp only [zAL, zAF, List.length_append, List.length_cons, List.length_nil]
   refine ⟨szN (by lia), szN (by lia), ?_⟩
   rw [se6b, zAv]
   refine zDI (pre := ktl N) (seC x (tx K.1) (tx K.2) s m (tx v) [("raw", .str (tx ([34] ++ escA v ++ [34])))]) _ v zEg (zJD N) (zIX _ _ _ _ _ _ ⟨trivial, trivial⟩) (by lia) (fun c led K D h => ?_) ?_
   ·rw [zQh]
    have e : inB (sgS c) "\"\\" = decide (c ∈ [34, 92]) := zDS c "\"\\"
    rw [e]
    unfold zEg at h
    refine zAk (fun q => ?_) fun q => ⟨?_, ?_⟩
    ·have q' : c = 34 ∨ c = 92 := by simpa using of_decide_eq_true q
     rw [if_pos q'] at h; exact h
    ·exact szN (by rw [zBU]; show 1 + 1 ≤ _; decide)
    ·have q' : ¬ (c = 34 ∨ c = 92) := by simpa using of_decide_eq_false q
     rw [if_neg q', ← q92] at h; exact h
   ·refine zIm (by show (zIf v).length ≤ _; lia) ?_
    show ev (cfSe P) 109 zAg (.sts (ib781.drop 2)) ⟨put "kept" (.str (tx (zIf v))) (seC x (tx K.1) (tx K.2) s m (tx v) [("raw", .str (tx ([34] ++ escA v ++ [34])))]), ktl N⟩ _
    rw [zOD, se6c, q34, q61]
    simp only [zAL, zAF, List.length_append, List.length_cons, List.length_nil]
    refine ⟨szN (by lia), szN (by lia), szN (by lia), szN (by lia), ?_⟩
    exact zLf (p := 8) (q := 9) (K.1 ++ [61] ++ ([34] ++ escA v ++ [34]), [K.1, [34] ++ v ++ [34]], [K.2, zIf v]) rfl rfl rfl (Nat.le_refl _) (Nat.le_refl _) hk
 ·rw [if_neg (fun e => by rw [e] at q; cases q)] at hk
  rw [se8]
  refine zAk (fun q4 => ?_) fun q4 => ?_
  ·rw [if_pos (eq_of_beq q4)] at hk
   have q5 : s ≠ 5 := fun e => by rw [e] at q4; cases q4
   rw [if_neg q5] at hk
   rw [se9]
   refine zAk (fun q5' => absurd (eq_of_beq q5') q5) fun _ => zLb P (h := [55]) (e := []) h1 h2 hv (Nat.le_refl _) (Nat.zero_le _) hk
  ·rw [if_neg (fun e => by rw [e] at q4; cases q4)] at hk
   rw [se9]
   refine zAk (fun q5 => ?_) fun q5 => ?_
   ·rw [if_pos (eq_of_beq q5)] at hk
    exact zLb P (h := []) (e := [55]) h1 h2 hv (Nat.zero_le _) (Nat.le_refl _) hk
   ·rw [if_neg (fun e => by rw [e] at q5; cases q5)] at hk
    exact zLb P (h := []) (e := []) h1 h2 hv (Nat.zero_le _) (Nat.zero_le _) hk
theorem zOV (i : Nat) : (ktab i).1.length ≤ 10 ∧ (ktab i).2.length ≤ 10 := by
 unfold ktab
 split <;> exact ⟨by decide, by decide⟩
theorem zQe (P : Params) {x s m : Int} {K : List Nat × List Nat} {st : St} {k : Kt} (h1 : K.1.length ≤ 10) (h2 : K.2.length ≤ 10) (hk : k (.v (.dat (setD (setT K s m)))) st) :
  ev (cfSe P) 117 zAg (.sts (bo781.drop 3)) ⟨seB x (tx K.1) (tx K.2) s m [], ktb⟩ (SubK st [] st.led k) := by
 unfold setT at hk
 rw [se3]
 refine zAk (fun q => ⟨by decide, ?_⟩) fun q => ?_
 ·rw [if_pos (eq_of_beq q)] at hk
  refine zAk (fun r => ?_) fun r => ?_
  ·rw [if_pos (eq_of_beq r)] at hk
   exact zLf (p := 6) (q := 7) ([120], [[120]], [[120]]) rfl rfl rfl (by decide) (by decide) hk
  ·rw [if_neg (fun e => by rw [e] at r; cases r)] at hk
   exact zLf (p := 6) (q := 7) ([34, 97, 61, 55, 34], [[34, 97], [55, 34]], [[97], [55]]) rfl rfl rfl (by decide) (by decide) hk
 ·rw [if_neg (fun e => by rw [e] at q; cases q)] at hk
  have rest : ¬ (s = 7 ∧ m.fmod 3 = 0) → ev (cfSe P) 115 zAg (.sts (bo781.drop 5)) ⟨seB x (tx K.1) (tx K.2) s m [], ktb⟩ (SubK st [] st.led k) := fun hn => by
   rw [if_neg hn] at hk
   rw [se5]
   have h0 : 0 ≤ m.fmod 4 := Int.fmod_nonneg_of_pos m (by decide)
   have h4 : m.fmod 4 < 4 := Int.fmod_lt_of_pos m (by decide)
   refine ⟨by decide, h0, szN (by lia), ?_⟩
   refine zQf P x _ _ s _ (m.fmod 4).toNat rfl _ (List.range (m.fmod 4).toNat) 0 m [] (by simp; lia) fun m' => ?_
   rw [zBS, List.nil_append, List.length_range]
   exact zSE P h1 h2 (by rw [zFz]; lia) hk
  rw [se4]
  refine zAk (fun q7 => ⟨by decide, zAk (fun r => ?_) fun r => rest fun e => by rw [e.2] at r; cases r⟩) fun q7 => rest fun e => by rw [e.1] at q7; cases q7
  rw [if_pos ⟨eq_of_beq q7, eq_of_beq r⟩] at hk
  rw [q61, zAL]
  refine ⟨szN (by rw [zAF, zAF, List.length_cons, List.length_nil]; lia), ?_⟩
  exact zLf (p := 6) (q := 7) (K.1 ++ [61], [K.1, []], [K.2, []]) rfl rfl rfl (Nat.le_refl _) (Nat.le_refl _) hk
theorem zSD (x : Int) {i : Int} (h0 : 0 ≤ i) (h1 : i < 5) : ∃ y, idxP [.obj 0, .obj 1, .obj 2, .obj 3, .obj 4] i y ∧ zEL ⟨[("x", .int x)], ktb⟩ y = some (false, [.str (tx (ktab i.toNat).1), .str (tx (ktab i.toNat).2)]) := by
 have : i = 0 ∨ i = 1 ∨ i = 2 ∨ i = 3 ∨ i = 4 := by lia
 rcases this with rfl | rfl | rfl | rfl | rfl
 ·exact ⟨.obj 0, zBB (i := 0) rfl (by decide), rfl⟩
 ·exact ⟨.obj 1, zBB (i := 1) rfl (by decide), rfl⟩
 ·exact ⟨.obj 2, zBB (i := 2) rfl (by decide), rfl⟩
 ·exact ⟨.obj 3, zBB (i := 3) rfl (by decide), rfl⟩
 ·exact ⟨.obj 4, zBB (i := 4) rfl (by decide), rfl⟩
noncomputable def zJJ (svs : List SV) (st : St) (k : Kt) : Prop := on1 svs fun x => onI x fun m => k (.v (.dat (setD (setN m)))) st
noncomputable def settingSp : SpE := ⟨781, 1, 140, zJJ⟩
theorem zFK {svs : List SV} {st : St} {k : Kt} (h : zJJ svs st k) : ∃ m, svs = [.int m] ∧ k (.v (.dat (setD (setN m)))) st := by
 obtain ⟨x, rfl, h⟩ := zAc h
 obtain ⟨b, rfl, h⟩ := zCP h
 exact ⟨_, rfl, h⟩
theorem zKH {w : World} {C : Cf} (hK : C.K = KK w.params) (hC : C.known = true) : SpOk w C settingSp := by
 refine ⟨by rw [hK]; kernel_rfl, ?_⟩
 intro F A ads st s svs vs k Q Rr ok hA hh hd hu h R D hl' T hR
 replace hA : true = true → A.frames = some F.stk := fun _ => hA hC
 obtain ⟨x, rfl, hk⟩ := zFK h
 have okY : FmOk (cfSe w.params) F := zAY hK.symm ok (by first | exact fun _ => rfl | exact fun _ => by assumption | exact fun h => h)
 have d140 : settingSp.d = 140 := rfl
 rw [d140] at hd hu
 refine zBd (e := f781) (n := 120) (led₁ := []) (led₂ := st.led) (zBY (zTy w) 120) (zSl _) okY hA hh (by lia) (by lia) R D hl' rfl trivial (fun x hx => by rw [List.mem_singleton.mp hx]; exact trivial) List.nodup_nil ?_ T hR
 show ev (cfSe w.params) 120 zAg (.sts bo781) ⟨[("x", .int x)], []⟩ _
 rw [se0]
 obtain ⟨y, hy, hq⟩ := zSD x (Int.fmod_nonneg_of_pos (x.fdiv 8) (show (0 : Int) < 5 by decide)) (Int.fmod_lt_of_pos (x.fdiv 8) (by decide))
 refine ⟨⟨by decide, by decide⟩, by decide, y, hy, false, _, hq, zJK.1.symm, ?_⟩
 rw [zJK.2, se1]
 obtain ⟨l1, l2⟩ := zOV ((x.fdiv 8).fmod 5).toNat
 exact ⟨by decide, ⟨by decide, by decide⟩, zQe w.params l1 l2 hk⟩
noncomputable def s803 : Stmt := stAt 37 B01
noncomputable def f803 : FnE := ⟨803, 1, ["script"], [], zAG s803, zAB s803, "law", .ref 802, []⟩
theorem zSg (P : Params) : FnOk (KK P) f803 := FnOk.of (by kernel_rfl) (by kernel_rfl) ⟨_, _, _, _, (by kernel_rfl : (KK P).lookup 803 = some (o803 P)), rfl, rfl, fun _ _ => rfl, rfl, rfl, fun s vs X h => by
 obtain ⟨a, rfl⟩ := len1 h
 exact BindsTo.of_eq (by kernel_rfl)⟩
noncomputable def zAh : List (Str × NameKind) := (zAB s803).names
noncomputable def bo803 : List Stmt := zAG s803
noncomputable def gL : List (Str × Value) := [("_law_setting", .ref 781), ("_law_agrees", .ref 798), ("_law_due", .ref 786), ("_law_told", .ref 793), ("_law_marked", .ref 776), ("parse_http_list", .ref 56), ("split", .ref 756), ("join_shlex", .ref 763), ("sum", .builtin "sum")]
theorem gokL (P : Params) : ∀ p ∈ gL, zCI (KK P) p :=
 zAA ⟨by kernel_rfl, .inl (by kernel_rfl)⟩ <| zAA ⟨by kernel_rfl, .inl (by kernel_rfl)⟩ <| zAA ⟨by kernel_rfl, .inl (by kernel_rfl)⟩ <| zAA ⟨by kernel_rfl, .inl (by kernel_rfl)⟩ <| zAA ⟨by kernel_rfl, .inl (by kernel_rfl)⟩ <|
 zAA ⟨by kernel_rfl, .inl (by kernel_rfl)⟩ <| zAA ⟨by kernel_rfl, .inl (by kernel_rfl)⟩ <| zAA ⟨by kernel_rfl, .inl (by kernel_rfl)⟩ <| zAA ⟨by kernel_rfl, .inr ⟨by kernel_rfl, by kernel_rfl, by kernel_rfl⟩⟩ zAD
noncomputable def suE : Expr := asV (stAt 1 bo803)
noncomputable def suA : Expr := kid suE [1]
theorem zTS : ∃ p1 p5, suE = .Call (.Name "sum" p1) [suA] [] p5 ∧ zBZ [suA] = true := ⟨kp suE [0], kp suE [], by kernel_rfl, by kernel_rfl⟩
noncomputable abbrev cfG (P : Params) : Cf where
 K := KK P
 globs := gL
 fns := []
 cls := []
theorem cokG (w : World) : CfOk w (cfG w.params) := ⟨zAD, zAD, zAn (gokL _), zAD, zAD, zAD⟩
theorem zRw (P : Params) (d : List PyData) (se : SV) (l : List SO) (K : SV → St → Prop) : ev (cfG P) 20 zAh (.ex suA) ⟨[("script", .dat (.list d)), ("settings", se)], l⟩ (onV K) = K (.dat (.list (slD d none (some 8)))) ⟨[("script", .dat (.list d)), ("settings", se)], l⟩ := by
 kernel_rfl
noncomputable def sumHk : HkE Expr := ⟨(cPos suE).line, (cPos suE).col, 30, suE, fun ns st k => ns = zAh ∧ ∃ (xs : List Int) (se : SV) (l : List SO), st = ⟨[("script", .dat (.list (xs.map .int))), ("settings", se)], l⟩ ∧ k (.v (.int (xs.take 8).sum)) st⟩
theorem zOg {B : Heap} {fz : List (Addr × Obj)} : ∀ {vs : List Value} {xs : List Int}, RdL B fz vs (xs.map .int) → IntsAre vs xs := by
 intro vs xs
 induction xs generalizing vs with
 | nil => intro r; cases r; exact .nil
 | cons x r ih =>
  intro h
  cases h with
  | cons a b =>
   cases a
   exact .cons x _ (ih b)
theorem zNU {w : World} {C : Cf} (hK : C.K = KK w.params) (hC : C.known = true) : HxOk w C sumHk := by
 intro F E ads st s k Q ok hd hu h R T
 obtain ⟨hns, xs, se, l, rfl, hk⟩ := h
 obtain ⟨p1, p5, e, hs⟩ := zTS
 show wpAny (model prog w) F.A (eval suE F.env) (fun v s' => Q (.v v) s') E s
 rw [e]
 have d30 : sumHk.d = 30 := rfl
 rw [d30] at hd hu
 have ok3 : FmOk (cfG w.params) F := zAY (by rw [hK]) ok (by first | exact fun _ => rfl | exact fun _ => by assumption | exact fun h => h)
 refine Call_ (zBP (cokG w) ok3 (by rw [hns]; kernel_rfl) (by kernel_rfl : lk "sum" gL = some (.builtin "sum")) (by kernel_rfl) R ?_)
 refine zAS (fun a e => nomatch e) hs (spliced_more ?_ rfl)
 have e8 : slD (xs.map PyData.int) none (some 8) = (xs.take 8).map .int := by
  rw [show (8 : Int) = ((8 : Nat) : Int) from rfl, zGG, List.map_take]
 refine ihV (zBY (cokG w) 20) ok3 (by lia) (by lia) (K := fun y st₁ => y = .dat (.list ((xs.take 8).map .int)) ∧ st₁ = ⟨[("script", .dat (.list (xs.map .int))), ("settings", se)], l⟩) (by rw [hns, zRw, e8]; exact ⟨rfl, rfl⟩) R ?_
 rintro y st' more u s' ⟨rfl, rfl⟩ R' nx d
 refine spliced_none ?_
 obtain ⟨a, vs, ds, rfl, hl, hf, hrd, hsz, hx⟩ := zBA (k := fun ds => ds = (xs.take 8).map .int) ok3 R' d rfl
 subst hx
 have hi := zOg hrd
 obtain ⟨ys, hy⟩ := hi.allInts.items
 have hn : numsOf vs.toArray.toList = xs.take 8 := by rw [show vs.toArray.toList = vs from rfl, hi.numsOf]
 rw [hy] at hl hn
 rw [nums_intItems] at hn
 refine sum_intListG ok3.hand hl fun h' tk t' hk' => ?_
 rw [preSum_eq, List.take_of_length_le (by simp), hn]
 have R2 := zLh (zs := []) R' hk' (fun p hp => nomatch hp) List.nodup_nil
 have nx2 : Nx F s' { s' with heap := h', toks := tk } := Nx.of_gens rfl rfl rfl
 exact T (.v (.int (xs.take 8).sum)) _ (wa more (⟨[], []⟩ : Wd)) (.v (.int (xs.take 8).sum t')) { s' with heap := h', toks := tk } hk (by rw [← Wd.append_assoc]; exact R2) (nx.trans nx2) ⟨t', rfl⟩
noncomputable abbrev cfLa (P : Params) : Cf where
 K := KK P
 globs := gL
 fns := []
 cls := []
 sps := [settingSp, agreesSp, dueSp, toldSp, markedSp, httpSp, splitSp, joinSp]
 hxs := [sumHk]
theorem zTz (w : World) : CfOk w (cfLa w.params) := ⟨zAD, zAD, zAn (gokL _), zAA (zKH rfl rfl) <| zAA (zNM rfl rfl) <| zAA (zPm rfl rfl) <| zAA (zLD rfl rfl) <| zAA (zHJ rfl rfl) <| zAA (zRR rfl rfl) <| zAA (zNV rfl rfl) <| zAA (zRM rfl rfl) zAD, zAA (zNU rfl rfl) zAD, zAD⟩
noncomputable def lc0 : Expr := asV (stAt 0 bo803)
noncomputable def cn0 : List (Str × NameKind) := zAu (lcSc lc0).names
noncomputable abbrev laA (d : List PyData) (more : List (Str × SV)) : List (Str × SV) := ("script", .dat (.list d)) :: more
theorem la0 (P : Params) (d : List PyData) (k : Kt) : ev (cfLa P) 300 zAh (.sts bo803) ⟨laA d [], [.tab 758]⟩ k =
   zBQ (zAN cn0 (zAm lc0)) none (fun st k => ev (cfLa P) 295 cn0 (.ex (zBH lc0)) st k) (.dat (.list (slD d none (some 8)))) ((slD d none (some 8)).map svOf) (.it true (.dat (.list (slD d none (some 8))))) 1 2 0 ((slD d none (some 8)).map svOf) ⟨[], [.tab 758, .it true (.dat (.list (slD d none (some 8)))) 0, .list []]⟩
     (fun stE => zAf (laA d []) 1 2 stE fun y st₁ => ev (cfLa P) 299 zAh (.sts (bo803.drop 1)) ⟨put "settings" y st₁.loc, st₁.led⟩ k) := by
  kernel_rfl
theorem la0e (P : Params) (x : Int) (l : List SO) (K : Kt) (D : St → Prop) : zAN cn0 (zAm lc0) (.int x) ⟨[], l⟩ (fun st₁ => zCA none st₁ fun c st₂ => ifT c (ev (cfLa P) 295 cn0 (.ex (zBH lc0)) st₂ K) (D st₂)) =
   K (.v (.dat (setD (setN x)))) ⟨[("x", .int x)], l⟩ := by
  kernel_rfl
theorem la1 (P : Params) (d : List PyData) (se : SV) (l : List SO) (k : Kt) : ev (cfLa P) 299 zAh (.sts (bo803.drop 1)) ⟨laA d [("settings", se)], l⟩ k =
   (sumHk.x = suE ∧ sumHk.sp zAh ⟨laA d [("settings", se)], l⟩ (onV fun y st₁ => ev (cfLa P) 298 zAh (.sts (bo803.drop 2)) ⟨put "total" y st₁.loc, st₁.led⟩ k)) := by
  kernel_rfl
noncomputable def zTM : Expr → List Expr
 | .Call _ args _ _ => args
 | _ => []
noncomputable def mcJ (P : Params) (n : Nat) (e : Expr) (y : SV) (st : St) (K : Kt) : Prop := match zPe st y with
 | true => zQx (cfLa P) st y "join" fun fa => ev (cfLa P) n zAh (.args (zTM e) (cPos e)) st <| onVs fun vs st₂ => zGj (cfLa P) n (ev (cfLa P) n) fa (y :: vs) st₂ K
 | false => bmT st y "join" fun mid => ev (cfLa P) n zAh (.args (zTM e) (cPos e)) st <| onVs fun vs st₂ => bcT mid st₂ y vs fun z st₃ => K (.v z) st₃
noncomputable def hdE : Expr := asV (stAt 2 bo803)
noncomputable def lnE : Expr := asV (stAt 3 bo803)
noncomputable def L1 : List SO := [.tab 758, .list [.str ", ", .str ","]]
noncomputable def L2 : List SO := L1 ++ [.list [.str " ", .str "\n", .str " \t", .str "\r "]]
noncomputable abbrev laB (d : List PyData) (ss : List PyData) (t : Int) (more : List (Str × SV)) : List (Str × SV) := laA d (("settings", .dat (.list ss)) :: ("total", .int t) :: more)
theorem la2 (P : Params) (d ss : List PyData) (t : Int) (k : Kt) : ev (cfLa P) 298 zAh (.sts (bo803.drop 2)) ⟨laB d ss t [], [.tab 758]⟩ k =
   ((2 : Int) ≠ 0 ∧ ∃ y, idxP [.str ", ", .str ","] (t.fmod 2) y ∧ mcJ P 295 hdE y ⟨laB d ss t [], L1⟩ (onV fun z st₁ => ev (cfLa P) 297 zAh (.sts (bo803.drop 3)) ⟨put "header" z st₁.loc, st₁.led⟩ k)) := by
  kernel_rfl
theorem la3 (P : Params) (d ss : List PyData) (t : Int) (h : Str) (k : Kt) : ev (cfLa P) 297 zAh (.sts (bo803.drop 3)) ⟨laB d ss t [("header", .str h)], L1⟩ k =
   (((2 : Int) ≠ 0 ∧ (2 : Int).natAbs < 1073741824) ∧ ((4 : Int) ≠ 0 ∧ ∃ y, idxP [.str " ", .str "\n", .str " \t", .str "\r "] ((t.fdiv 2).fmod 4) y ∧ mcJ P 294 lnE y ⟨laB d ss t [("header", .str h)], L2⟩ (onV fun z st₁ => ev (cfLa P) 296 zAh (.sts (bo803.drop 4)) ⟨put "line" z st₁.loc, st₁.led⟩ k))) := by
  kernel_rfl
noncomputable def lcH : Expr := arg0 hdE
noncomputable def cnH : List (Str × NameKind) := zAu (lcSc lcH).names
noncomputable def lcN : Expr := arg0 lnE
noncomputable def cnN : List (Str × NameKind) := zAu (lcSc lcN).names
noncomputable def zOd (sep : Str) (y : SV) (st : St) (K : Kt) : Prop := zBt st y fun ds => ∃ ts : List Str, ds = ts.map .str ∧ JoinOk sep ts = true ∧ (Txt.join sep ts).length ≤ sizeLine ∧ K (.v (.str (Txt.join sep ts))) st
theorem la2j (P : Params) (d ss : List PyData) (t : Int) (sep : Str) (K : Kt) : mcJ P 295 hdE (.str sep) ⟨laB d ss t [], L1⟩ K =
   zBQ (zAN cnH (zAm lcH)) none (fun st k => ev (cfLa P) 291 cnH (.ex (zBH lcH)) st k) (.dat (.list ss)) (ss.map svOf) (.it true (.dat (.list ss))) 2 3 0 (ss.map svOf) ⟨[], L1 ++ [.it true (.dat (.list ss)) 0, .list []]⟩
     (fun stE => zAf (laB d ss t []) 2 3 stE fun y st₁ => zOd sep y st₁ K) := by
  kernel_rfl
theorem la3j (P : Params) (d ss : List PyData) (t : Int) (h sep : Str) (K : Kt) : mcJ P 294 lnE (.str sep) ⟨laB d ss t [("header", .str h)], L2⟩ K =
   zBQ (zAN cnN (zAm lcN)) none (fun st k => ev (cfLa P) 290 cnN (.ex (zBH lcN)) st k) (.dat (.list ss)) (ss.map svOf) (.it true (.dat (.list ss))) 3 4 0 (ss.map svOf) ⟨[], L2 ++ [.it true (.dat (.list ss)) 0, .list []]⟩
     (fun stE => zAf (laB d ss t [("header", .str h)]) 3 4 stE fun y st₁ => zOd sep y st₁ K) := by
  kernel_rfl
theorem la2e (P : Params) (ds : List PyData) (l : List SO) (K : Kt) (D : St → Prop) : zAN cnH (zAm lcH) (.dat (.tuple ds)) ⟨[], l⟩ (fun st₁ => zCA none st₁ fun c st₂ => ifT c (ev (cfLa P) 291 cnH (.ex (zBH lcH)) st₂ K) (D st₂)) =
   (∃ y, idxP (ds.map svOf) 0 y ∧ K (.v y) ⟨[("one", .dat (.tuple ds))], l⟩) := by
  kernel_rfl
theorem la3e (P : Params) (ds : List PyData) (l : List SO) (K : Kt) (D : St → Prop) : zAN cnN (zAm lcN) (.dat (.tuple ds)) ⟨[], l⟩ (fun st₁ => zCA none st₁ fun c st₂ => ifT c (ev (cfLa P) 290 cnN (.ex (zBH lcN)) st₂ K) (D st₂)) =
   (∃ y, idxP (ds.map svOf) 0 y ∧ K (.v y) ⟨[("one", .dat (.tuple ds))], l⟩) := by
  kernel_rfl
noncomputable def lc4 : Expr := asV (stAt 4 bo803)
noncomputable def cn4 : List (Str × NameKind) := zAu (lcSc lc4).names
noncomputable def lc5 : Expr := asV (stAt 5 bo803)
noncomputable def cn5 : List (Str × NameKind) := zAu (lcSc lc5).names
noncomputable abbrev laH (d ss : List PyData) (t : Int) (h n : Str) (more : List (Str × SV)) : List (Str × SV) := laB d ss t (("header", .str h) :: ("line", .str n) :: more)
theorem la4 (P : Params) (d ss : List PyData) (t : Int) (h n : Str) (k : Kt) : ev (cfLa P) 296 zAh (.sts (bo803.drop 4)) ⟨laH d ss t h n [], L2⟩ k =
   zBQ (zAN cn4 (zAm lc4)) none (fun st k => ev (cfLa P) 291 cn4 (.ex (zBH lc4)) st k) (.dat (.list ss)) (ss.map svOf) (.it true (.dat (.list ss))) 3 4 0 (ss.map svOf) ⟨[], L2 ++ [.it true (.dat (.list ss)) 0, .list []]⟩
     (fun stE => zAf (laH d ss t h n []) 3 4 stE fun y st₁ => ev (cfLa P) 295 zAh (.sts (bo803.drop 5)) ⟨put "in_header" y st₁.loc, st₁.led⟩ k) := by
  kernel_rfl
theorem la4e (P : Params) (ds : List PyData) (l : List SO) (K : Kt) (D : St → Prop) : zAN cn4 (zAm lc4) (.dat (.tuple ds)) ⟨[], l⟩ (fun st₁ => zCA none st₁ fun c st₂ => ifT c (ev (cfLa P) 291 cn4 (.ex (zBH lc4)) st₂ K) (D st₂)) =
   (∃ y, idxP (ds.map svOf) 1 y ∧ K (.v y) ⟨[("one", .dat (.tuple ds))], l⟩) := by
  kernel_rfl
theorem la5 (P : Params) (d ss : List PyData) (t : Int) (h n : Str) (ih : SV) (k : Kt) : ev (cfLa P) 295 zAh (.sts (bo803.drop 5)) ⟨laH d ss t h n [("in_header", ih)], L2⟩ k =
   zBQ (zAN cn5 (zAm lc5)) none (fun st k => ev (cfLa P) 290 cn5 (.ex (zBH lc5)) st k) (.dat (.list ss)) (ss.map svOf) (.it true (.dat (.list ss))) 3 4 0 (ss.map svOf) ⟨[], L2 ++ [.it true (.dat (.list ss)) 0, .list []]⟩
     (fun stE => zAf (laH d ss t h n [("in_header", ih)]) 3 4 stE fun y st₁ => ev (cfLa P) 294 zAh (.sts (bo803.drop 6)) ⟨put "in_line" y st₁.loc, st₁.led⟩ k) := by
  kernel_rfl
theorem la5e (P : Params) (ds : List PyData) (l : List SO) (K : Kt) (D : St → Prop) : zAN cn5 (zAm lc5) (.dat (.tuple ds)) ⟨[], l⟩ (fun st₁ => zCA none st₁ fun c st₂ => ifT c (ev (cfLa P) 290 cn5 (.ex (zBH lc5)) st₂ K) (D st₂)) =
   (∃ y, idxP (ds.map svOf) 2 y ∧ K (.v y) ⟨[("one", .dat (.tuple ds))], l⟩) := by
  kernel_rfl
noncomputable abbrev laC (d ss : List PyData) (t : Int) (h n : Str) (ih il : List PyData) (more : List (Str × SV)) : List (Str × SV) := laH d ss t h n (("in_header", .dat (.list ih)) :: ("in_line", .dat (.list il)) :: more)
theorem la6 (P : Params) (d ss : List PyData) (t : Int) (h n : Str) (ih il : List PyData) (k : Kt) : ev (cfLa P) 294 zAh (.sts (bo803.drop 6)) ⟨laC d ss t h n ih il [], L2⟩ k =
   (h.length ≤ 1000000 ∧ zFF [.dat (.list ((zBy h.cps.toList).map .str)), .dat (.list ih)] ⟨laC d ss t h n ih il [], L2⟩ (onV fun z st₂ => zCV st₂ z fun c => ifT (!c) (k (.ret (.bool false)) st₂) (ev (cfLa P) 293 zAh (.sts (bo803.drop 7)) st₂ k))) := by
  kernel_rfl
theorem la7 (P : Params) (d ss : List PyData) (t : Int) (h n : Str) (ih il : List PyData) (k : Kt) : ev (cfLa P) 293 zAh (.sts (bo803.drop 7)) ⟨laC d ss t h n ih il [], L2⟩ k =
   (∃ toks, LexAll n (.str " ") 1 0 toks ∧ toks.length ≤ sizeLine ∧ zFF [.dat (.list (toks.map .str)), .dat (.list il)] ⟨laC d ss t h n ih il [], L2⟩ (onV fun z st₂ => zCV st₂ z fun c => ifT (!c) (k (.ret (.bool false)) st₂) (ev (cfLa P) 292 zAh (.sts (bo803.drop 8)) st₂ k))) := by
  kernel_rfl
noncomputable def dueL (pairs : List (List Str)) : List PyData := [.list (zAd (dueS pairs [] 0).1), .str (Str.ofString (dueS pairs [] 0).2.1), .int ((dueS pairs [] 0).2.2 : Nat)]
theorem la8 (P : Params) (d ss : List PyData) (t : Int) (h n : Str) (ih il : List PyData) (k : Kt) : ev (cfLa P) 292 zAh (.sts (bo803.drop 8)) ⟨laC d ss t h n ih il [], L2⟩ k =
   (∃ pairs : List (List Str), ih = zAW pairs ∧ (∀ p ∈ pairs, zFH p) ∧ pairs.length ≤ 100 ∧ ∃ y, idxP ((dueL pairs).map svOf) 0 y ∧ ev (cfLa P) 291 zAh (.sts (bo803.drop 9)) ⟨laC d ss t h n ih il [("rows", y)], L2⟩ k) := by
  kernel_rfl
noncomputable def crE : Expr := asV (stAt 9 bo803)
noncomputable def lc9 : Expr := arg0 crE
noncomputable def cn9 : List (Str × NameKind) := zAu (lcSc lc9).names
noncomputable def tgs : Expr → List Expr
 | .Tuple es _ _ => es
 | _ => []
noncomputable def tg9 : List Expr := tgs (zAm lc9)
theorem la9 (P : Params) (d ss : List PyData) (t : Int) (h n : Str) (ih il rs : List PyData) (k : Kt) : ev (cfLa P) 291 zAh (.sts (bo803.drop 9)) ⟨laC d ss t h n ih il [("rows", .dat (.list rs))], L2⟩ k =
   zBQ (zAN cn9 (zAm lc9)) none (fun st k => ev (cfLa P) 284 cn9 (.ex (zBH lc9)) st k) (.dat (.list rs)) (rs.map svOf) (.it true (.dat (.list rs))) 3 4 0 (rs.map svOf) ⟨[], L2 ++ [.it true (.dat (.list rs)) 0, .list []]⟩
     (fun stE => zAf (laC d ss t h n ih il [("rows", .dat (.list rs))]) 3 4 stE fun y st₁ => zOe [y] st₁ (onV fun z st₂ => ev (cfLa P) 290 zAh (.sts (bo803.drop 10)) ⟨put "crossed" z st₂.loc, st₂.led⟩ k)) := by
  kernel_rfl
theorem la9t (x : SV) (st : St) (K : St → Prop) : zAN cn9 (zAm lc9) x st K = (∃ b xs, zEL st x = some (b, xs) ∧ xs.length = tg9.length ∧ zBn cn9 tg9 xs st K) := by
 kernel_rfl
theorem la9u : tg9.length = 2 ∧ ∀ (a b : Str) (l : List SO) (K : St → Prop), zBn cn9 tg9 [.str a, .str b] ⟨[], l⟩ K = K ⟨[("key", .str a), ("value", .str b)], l⟩ := ⟨by kernel_rfl, fun a b l K => by kernel_rfl⟩
theorem la9e (P : Params) (a b : Str) (l : List SO) (K : Kt) (D : St → Prop) : (zCA none ⟨[("key", .str a), ("value", .str b)], l⟩ fun c st₂ => ifT c (ev (cfLa P) 284 cn9 (.ex (zBH lc9)) st₂ K) (D st₂)) =
   (a.length + ("=\"" : Str).length ≤ sizeLine ∧ ((a ++ "=\"").length + b.length ≤ sizeLine ∧ ((a ++ "=\"" ++ b).length + ("\"" : Str).length ≤ sizeLine ∧ K (.v (.str (a ++ "=\"" ++ b ++ "\""))) ⟨[("key", .str a), ("value", .str b)], l⟩))) := by
  kernel_rfl
noncomputable def toE : Expr := zEk (stAt 10 bo803)
theorem la10 (P : Params) (d ss : List PyData) (t : Int) (h n x : Str) (ih il rs : List PyData) (k : Kt) : ev (cfLa P) 290 zAh (.sts (bo803.drop 10)) ⟨laC d ss t h n ih il [("rows", .dat (.list rs)), ("crossed", .str x)], L2⟩ k =
   (∃ toks, LexAll x (.str " ") 1 0 toks ∧ toks.length ≤ sizeLine ∧ zIE [.dat (.list (toks.map .str))] ⟨laC d ss t h n ih il [("rows", .dat (.list rs)), ("crossed", .str x)], L2⟩ (onV fun y st₁ => ev (cfLa P) 287 zAh (.ex (cmpR toE)) st₁ (onV fun z st₂ => cmpA 287 st₂ .NotEq y z fun c => ifT c (k (.ret (.bool false)) st₂) (ev (cfLa P) 289 zAh (.sts (bo803.drop 11)) st₂ k)))) := by
  kernel_rfl
noncomputable def L3 (rs : List PyData) : List SO := L2 ++ [.tup [.dat (.list rs), .str ""]]
theorem zTm (P : Params) (d ss : List PyData) (t : Int) (h n x : Str) (ih il rs : List PyData) (K : SV → St → Prop) : ev (cfLa P) 287 zAh (.ex (cmpR toE)) ⟨laC d ss t h n ih il [("rows", .dat (.list rs)), ("crossed", .str x)], L2⟩ (onV K) =
   K (.obj 3) ⟨laC d ss t h n ih il [("rows", .dat (.list rs)), ("crossed", .str x)], L3 rs⟩ := by
  kernel_rfl
theorem la11 (P : Params) (d ss : List PyData) (t : Int) (h n x : Str) (ih il rs : List PyData) (k : Kt) : ev (cfLa P) 289 zAh (.sts (bo803.drop 11)) ⟨laC d ss t h n ih il [("rows", .dat (.list rs)), ("crossed", .str x)], L3 rs⟩ k =
   (∃ pairs : List (List Str), il = zAW pairs ∧ (∀ p ∈ pairs, zFH p) ∧ pairs.length ≤ 100 ∧ ∃ y, idxP ((dueL pairs).map svOf) 0 y ∧ ev (cfLa P) 288 zAh (.sts (bo803.drop 12)) ⟨laC d ss t h n ih il [("rows", .dat (.list rs)), ("crossed", .str x), ("rows_back", y)], L3 rs⟩ k) := by
  kernel_rfl
noncomputable def lc12 : Expr := arg0 (asV (stAt 12 bo803))
noncomputable def cn12 : List (Str × NameKind) := zAu (lcSc lc12).names
noncomputable def tg12 : List Expr := tgs (zAm lc12)
noncomputable abbrev laR (d ss : List PyData) (t : Int) (h n x : Str) (ih il rs rb : List PyData) (more : List (Str × SV)) : List (Str × SV) := laC d ss t h n ih il (("rows", .dat (.list rs)) :: ("crossed", .str x) :: ("rows_back", .dat (.list rb)) :: more)
theorem la12 (P : Params) (d ss : List PyData) (t : Int) (h n x : Str) (ih il rs rb : List PyData) (k : Kt) : ev (cfLa P) 288 zAh (.sts (bo803.drop 12)) ⟨laR d ss t h n x ih il rs rb [], L3 rs⟩ k =
   zBQ (zAN cn12 (zAm lc12)) none (fun st k => ev (cfLa P) 281 cn12 (.ex (zBH lc12)) st k) (.dat (.list rb)) (rb.map svOf) (.it true (.dat (.list rb))) 4 5 0 (rb.map svOf) ⟨[], L3 rs ++ [.it true (.dat (.list rb)) 0, .list []]⟩
     (fun stE => zAf (laR d ss t h n x ih il rs rb []) 4 5 stE fun y st₁ => zOd ", " y st₁ (onV fun z st₂ => ev (cfLa P) 287 zAh (.sts (bo803.drop 13)) ⟨put "crossed_back" z st₂.loc, st₂.led⟩ k)) := by
  kernel_rfl
theorem zTk (x : SV) (st : St) (K : St → Prop) : zAN cn12 (zAm lc12) x st K = (∃ b xs, zEL st x = some (b, xs) ∧ xs.length = tg12.length ∧ zBn cn12 tg12 xs st K) := by
 kernel_rfl
theorem zSV : tg12.length = 2 ∧ ∀ (a b : Str) (l : List SO) (K : St → Prop), zBn cn12 tg12 [.str a, .str b] ⟨[], l⟩ K = K ⟨[("key", .str a), ("value", .str b)], l⟩ := ⟨by kernel_rfl, fun a b l K => by kernel_rfl⟩
theorem zTl (P : Params) (a b : Str) (l : List SO) (K : Kt) (D : St → Prop) : (zCA none ⟨[("key", .str a), ("value", .str b)], l⟩ fun c st₂ => ifT c (ev (cfLa P) 281 cn12 (.ex (zBH lc12)) st₂ K) (D st₂)) =
   (a.length + ("=" : Str).length ≤ sizeLine ∧ (b.length ≤ 1000000 ∧ ((a ++ "=").length + (tx (zBV b.cps.toList)).length ≤ sizeLine ∧ K (.v (.str (a ++ "=" ++ tx (zBV b.cps.toList)))) ⟨[("key", .str a), ("value", .str b)], l⟩))) := by
  kernel_rfl
noncomputable def reE : Expr := rVal (stAt 13 bo803)
theorem la13 (P : Params) (d ss : List PyData) (t : Int) (h n x y : Str) (ih il rs rb : List PyData) (k : Kt) : ev (cfLa P) 287 zAh (.sts (bo803.drop 13)) ⟨laR d ss t h n x ih il rs rb [("crossed_back", .str y)], L3 rs⟩ k =
   (y.length ≤ 1000000 ∧ zIE [.dat (.list ((zBy y.cps.toList).map .str))] ⟨laR d ss t h n x ih il rs rb [("crossed_back", .str y)], L3 rs⟩ (onV fun y st₁ => ev (cfLa P) 284 zAh (.ex (cmpR reE)) st₁ (onV fun z st₂ => cmpA 284 st₂ .Eq y z fun c => k (.ret (.bool c)) st₂))) := by
  kernel_rfl
theorem zTj (P : Params) (d ss : List PyData) (t : Int) (h n x y : Str) (ih il rs rb : List PyData) (K : SV → St → Prop) : ev (cfLa P) 284 zAh (.ex (cmpR reE)) ⟨laR d ss t h n x ih il rs rb [("crossed_back", .str y)], L3 rs⟩ (onV K) =
   K (.obj 4) ⟨laR d ss t h n x ih il rs rb [("crossed_back", .str y)], L3 rs ++ [.tup [.dat (.list rb), .str ""]]⟩ := by
  kernel_rfl
noncomputable def Hq (raw t : List Nat) : Prop := ∀ tail p res, hl (raw ++ tail) false true p res = hl tail false true (p ++ t) res
noncomputable def Dq (raw t : List Nat) : Prop := ∀ tail q t0 e i, ∃ j q' e', go (raw ++ tail) .dq q t0 e i = go tail .dq q' (t0 ++ t) e' j
noncomputable def GoP (raw t : List Nat) : Prop := ∀ tail q t0 e i, ∃ j q' e', go (raw ++ tail) .a q t0 e i = go tail .a q' (t0 ++ t) e' j
noncomputable def Pc (raw hd sh : List Nat) : Prop := Thru raw hd ∧ GoP raw sh
theorem zRU {a b c d : List Nat} (h1 : GoP a b) (h2 : GoP c d) : GoP (a ++ c) (b ++ d) := fun tail q t0 e i => by
 obtain ⟨j, q', e', h⟩ := h1 (c ++ tail) q t0 e i
 obtain ⟨j2, q2, e2, g⟩ := h2 tail q' (t0 ++ b) e' j
 exact ⟨j2, q2, e2, by rw [List.append_assoc, h, g, List.append_assoc]⟩
theorem Pc.app {a b c x y z : List Nat} (h : Pc a b c) (g : Pc x y z) : Pc (a ++ x) (b ++ y) (c ++ z) := ⟨zGB h.1 g.1, zRU h.2 g.2⟩
theorem Pc.nil : Pc [] [] [] := ⟨fun tail p res => by rw [List.append_nil]; rfl, fun tail q t0 e i => ⟨i, q, e, by rw [List.append_nil]; rfl⟩⟩
noncomputable def calm (c : Nat) : Bool := !(ws c || c == 39 || c == 34 || c == 92 || c == 44)
theorem Pc.calm : ∀ l : List Nat, l.all calm = true → Pc l l l
 | [], _ => Pc.nil
 | c :: r, h => by
  rw [List.all_cons, Bool.and_eq_true] at h
  have hc : ws c = false ∧ c ≠ 39 ∧ c ≠ 34 ∧ c ≠ 92 ∧ c ≠ 44 := by
   have := h.1
   unfold Mine.calm at this
   simpa [not_or, and_assoc] using this
  obtain ⟨c1, c2, c3, c4, c5⟩ := hc
  refine Pc.app (a := [c]) (b := [c]) (c := [c]) ⟨zCK [c] fun d hd => by rw [List.mem_singleton.mp hd]; exact ⟨c3, c5⟩, fun tail q t0 e i => ⟨i, q, e, ?_⟩⟩ (Pc.calm r h.2)
  show go (c :: tail) .a q t0 e i = _
  conv => lhs; unfold go
  rw [if_neg (by rw [c1]; decide), if_neg c2, if_neg c3, if_neg c4]
theorem zMh {f g : Nat → List Nat} : ∀ v : List Nat, (∀ c ∈ v, Hq (f c) (g c)) → Hq (v.flatMap f) (v.flatMap g)
 | [], _ => fun tail p res => by rw [List.flatMap_nil, List.flatMap_nil, List.append_nil]; rfl
 | c :: r, h => fun tail p res => by
  rw [List.flatMap_cons, List.flatMap_cons, List.append_assoc, h c (.head _), zMh r (fun d hd => h d (.tail _ hd)), List.append_assoc]
theorem zMy {f g : Nat → List Nat} : ∀ v : List Nat, (∀ c ∈ v, Dq (f c) (g c)) → Dq (v.flatMap f) (v.flatMap g)
 | [], _ => fun tail q t0 e i => ⟨i, q, e, by rw [List.flatMap_nil, List.flatMap_nil, List.append_nil]; rfl⟩
 | c :: r, h => fun tail q t0 e i => by
  obtain ⟨j, q', e', h1⟩ := h c (.head _) (r.flatMap f ++ tail) q t0 e i
  obtain ⟨j2, q2, e2, h2⟩ := zMy r (fun d hd => h d (.tail _ hd)) tail q' (t0 ++ g c) e' j
  exact ⟨j2, q2, e2, by rw [List.flatMap_cons, List.flatMap_cons, List.append_assoc, h1, h2, List.append_assoc]⟩
theorem Pc.marks {f g1 g2 : Nat → List Nat} (v : List Nat) (h1 : ∀ c ∈ v, Hq (f c) (g1 c)) (h2 : ∀ c ∈ v, Dq (f c) (g2 c)) : Pc ([34] ++ v.flatMap f ++ [34]) ([34] ++ v.flatMap g1 ++ [34]) (v.flatMap g2) := by
 refine ⟨fun tail p res => ?_, fun tail q t0 e i => ?_⟩
 ·rw [List.append_assoc, List.append_assoc]
  show hl (34 :: (v.flatMap f ++ 34 :: tail)) false false p res = _
  conv => lhs; unfold hl
  rw [if_neg (by decide), if_neg (by decide), if_neg (by decide), if_pos rfl, zMh v h1]
  conv => lhs; unfold hl
  rw [if_neg (by decide), if_pos rfl, if_neg (by decide), if_pos rfl]
  simp
 ·obtain ⟨j, q', e', h⟩ := zMy v h2 (34 :: tail) q t0 e i
  refine ⟨j, true, e', ?_⟩
  rw [List.append_assoc, List.append_assoc]
  show go (34 :: (v.flatMap f ++ 34 :: tail)) .a q t0 e i = _
  conv => lhs; unfold go
  rw [if_neg (by decide), if_neg (by decide), if_pos rfl, h]
  conv => lhs; unfold go
  rw [if_pos rfl]
theorem zPg (c : Nat) : Hq [92, c] [c] := fun tail p res => by
 show hl (92 :: c :: tail) false true p res = _
 conv => lhs; unfold hl
 rw [if_neg (by decide), if_pos rfl, if_pos rfl]
 conv => lhs; unfold hl
 rw [if_pos rfl]
theorem zPf {c : Nat} (h1 : c ≠ 92) (h2 : c ≠ 34) : Hq [c] [c] := fun tail p res => by
 show hl (c :: tail) false true p res = _
 conv => lhs; unfold hl
 rw [if_neg (by decide), if_pos rfl, if_neg h1, if_neg h2]
theorem zPo (c : Nat) : Dq [92, c] (zEg c) := fun tail q t0 e i => by
 have s : go ([92, c] ++ tail) .dq q t0 e i = go (c :: tail) .ed true t0 "\"" i := by
  show go (92 :: c :: tail) .dq q t0 e i = _
  conv => lhs; unfold go
  rw [if_neg (by decide), if_pos rfl]
 refine ⟨i + nl c, true, "\"", ?_⟩
 rw [s]
 conv => lhs; unfold go
 unfold zEg
 by_cases h : c = 92 ∨ c = 34
 ·rw [if_pos h, if_pos h.symm]
 ·rw [if_neg h, if_neg (fun q => h q.symm)]
theorem zPn {c : Nat} (h1 : c ≠ 92) (h2 : c ≠ 34) : Dq [c] [c] := fun tail q t0 e i => ⟨i + nl c, true, e, by
 show go (c :: tail) .dq q t0 e i = _
 conv => lhs; unfold go
 rw [if_neg h2, if_neg h1]⟩
theorem zEq (v : List Nat) : v.flatMap (fun c => [c]) = v := by
 induction v with
 | nil => rfl
 | cons c r ih => rw [List.flatMap_cons, ih]; rfl
theorem Pc.mark (v : List Nat) : Pc (zBV v) ([34] ++ v ++ [34]) v := by
 have := Pc.marks (f := escC) (g1 := fun c => [c]) (g2 := fun c => [c]) v (fun c _ => by
  unfold escC
  split
  ·exact zPg c
  ·rename_i h; exact zPf (fun e => h (.inr e)) fun e => h (.inl e)) fun c _ => by
  unfold escC
  split
  ·rename_i h
   have := zPo c
   unfold zEg at this
   rwa [if_pos h] at this
  ·rename_i h; exact zPn (fun e => h (.inr e)) fun e => h (.inl e)
 rw [zEq] at this
 exact this
theorem Pc.all (v : List Nat) : Pc ([34] ++ escA v ++ [34]) ([34] ++ v ++ [34]) (zIf v) := by
 have := Pc.marks (f := fun c => [92, c]) (g1 := fun c => [c]) (g2 := zEg) v (fun c _ => zPg c) fun c _ => zPo c
 rw [zEq] at this
 exact this
theorem Pc.quo (v : List Nat) (h : ∀ c ∈ v, c ≠ 92 ∧ c ≠ 34) : Pc ([34] ++ v ++ [34]) ([34] ++ v ++ [34]) v := by
 have := Pc.marks (f := fun c => [c]) (g1 := fun c => [c]) (g2 := fun c => [c]) v (fun c hc => zPf (h c hc).1 (h c hc).2) fun c hc => zPn (h c hc).1 (h c hc).2
 rw [zEq] at this
 exact this
noncomputable def GoW (raw t : List Nat) : Prop := t ≠ [] ∧ ∀ (tail : List Nat) (i : Int), ∃ j q e', go (raw ++ tail) .sp false [] " " i = go tail .a q t e' j
theorem zMm (tail : List Nat) (e : Str) : ∀ (s : List Nat) (q : Bool) (t : List Nat) (i : Int), s ≠ [] → s.all ws = true → ∃ j, go (s ++ tail) .sp q t e i = go tail .sp false [] e j
 | [], _, _, _, h, _ => absurd rfl h
 | c :: r, q, t, i, _, h => by
  rw [List.all_cons, Bool.and_eq_true] at h
  have s1 : go (c :: (r ++ tail)) .sp q t e i = go (r ++ tail) .sp false [] e (i + nl c) := by
   conv => lhs; unfold go
   rw [if_pos h.1]
  cases r with
  | nil => exact ⟨_, s1⟩
  | cons d r =>
   obtain ⟨j, hj⟩ := zMm tail e (d :: r) false [] (i + nl c) (List.cons_ne_nil _ _) h.2
   exact ⟨j, s1.trans hj⟩
theorem zSf {c : Nat} {r t : List Nat} (hc : ws c = false) (hg : GoP (c :: r) t) (ht : t ≠ []) : GoW (c :: r) t := ⟨ht, fun tail i => by
 obtain ⟨j, q, e', hj⟩ := hg tail false [] " " i
 refine ⟨j, q, e', Eq.trans ?_ hj⟩
 show go (c :: (r ++ tail)) .sp false [] " " i = go (c :: (r ++ tail)) .a false [] " " i
 unfold go
 have hn : ¬ ws c = true := by rw [hc]; decide
 rw [if_neg hn, if_neg hn]
 rfl⟩
theorem zOl {x : List Nat} (hx : x ≠ []) : GoW (zAt x) x := ⟨hx, fun tail i => by
 obtain ⟨j, q, _, h⟩ := zRT tail " " x i
 exact ⟨j, q, _, h⟩⟩
theorem go_w {raw t : List Nat} (h : GoW raw t) (s tail : List Nat) (hs : s.all ws = true) (i : Int) : ∃ j q e', go (s ++ (raw ++ tail)) .sp false [] " " i = go tail .a q t e' j := by
 by_cases hn : s = []
 ·subst hn; exact h.2 tail i
 ·obtain ⟨j0, h0⟩ := zMm (raw ++ tail) " " s false [] i hn hs
  obtain ⟨j, q, e', hj⟩ := h.2 tail j0
  exact ⟨j, q, e', h0.trans hj⟩
theorem zEc (c0 : Nat) (s1 : List Nat) (h0 : ws c0 = true) (h1 : s1.all ws = true) : ∀ (wl : List (List Nat × List Nat)) (s pre : List Nat) (i : Int), s.all ws = true → (∀ w ∈ wl, GoW w.1 w.2) → (pre ++ (s ++ zAU (c0 :: s1) (wl.map (·.1)))).length ≤ sizeLine → (wl ≠ [] ∨ s = []) →
  LexAll (tx (pre ++ (s ++ zAU (c0 :: s1) (wl.map (·.1))))) (.str " ") i pre.length (wl.map fun w => tx w.2)
 | [], s, pre, i, _, _, hl, hn => by
  have hs : s = [] := hn.elim (fun h => absurd rfl h) id
  subst hs
  have c := LexC.run (pre := pre) (show go [] .sp false [] " " i = some ⟨none, false, [], " ", i, []⟩ from rfl) hl
  exact .stop (x := ⟨.none, false, tx [], " ", i, ((pre ++ ([] : List Nat)).length - 0 : Nat)⟩) trivial trivial c rfl (by rfl)
 | [w], s, pre, i, hs, hw, hl, _ => by
  have hg := hw w (.head _)
  obtain ⟨j, q, e', h⟩ := go_w hg s [] hs i
  rw [List.append_nil] at h
  have h' : go (s ++ w.1) .sp false [] " " i = some ⟨none, q, w.2, e', j, []⟩ := h
  have c := LexC.run (pre := pre) h' hl
  exact .tok (x := ⟨.none, q, tx w.2, e', j, ((pre ++ (s ++ w.1)).length - 0 : Nat)⟩) trivial trivial c (.inr (zRs hg.1)) (zRB (pre ++ (s ++ w.1)) j hl)
 | w :: y :: r, s, pre, i, hs, hw, hl, _ => by
  have hg := hw w (.head _)
  obtain ⟨j, q, e', h⟩ := go_w hg s (c0 :: (s1 ++ zAU (c0 :: s1) ((y :: r).map (·.1)))) hs i
  have h' : go (s ++ (w.1 ++ c0 :: (s1 ++ zAU (c0 :: s1) ((y :: r).map (·.1))))) .sp false [] " " i = some ⟨some .sp, q, w.2, e', j + nl c0, s1 ++ zAU (c0 :: s1) ((y :: r).map (·.1))⟩ := by
   rw [h]
   show (if ws c0 = true then (if w.2 ≠ [] ∨ q = true then some (⟨some .sp, q, w.2, e', j + nl c0, s1 ++ zAU (c0 :: s1) ((y :: r).map (·.1))⟩ : LR) else _) else _) = _
   rw [if_pos h0, if_pos (.inl hg.1)]
  have hl' : (pre ++ (s ++ (w.1 ++ c0 :: (s1 ++ zAU (c0 :: s1) ((y :: r).map (·.1)))))).length ≤ sizeLine := hl
  have c := LexC.run (pre := pre) h' hl'
  have e1 : pre ++ (s ++ (w.1 ++ c0 :: (s1 ++ zAU (c0 :: s1) ((y :: r).map (·.1))))) = (pre ++ s ++ w.1 ++ [c0]) ++ (s1 ++ zAU (c0 :: s1) ((y :: r).map (·.1))) := by simp
  have e2 : ((pre ++ (s ++ (w.1 ++ c0 :: (s1 ++ zAU (c0 :: s1) ((y :: r).map (·.1)))))).length - (s1 ++ zAU (c0 :: s1) ((y :: r).map (·.1))).length : Nat) = (pre ++ s ++ w.1 ++ [c0]).length := by
   rw [e1, List.length_append]; lia
  have ih := zEc c0 s1 h0 h1 (y :: r) s1 (pre ++ s ++ w.1 ++ [c0]) (j + nl c0) h1 (fun v hv => hw v (.tail _ hv)) (by rw [← e1]; exact hl') (.inl (List.cons_ne_nil _ _))
  rw [← e1] at ih
  refine .tok (x := ⟨.str " ", q, tx w.2, e', j + nl c0, ((pre ++ (s ++ (w.1 ++ c0 :: (s1 ++ zAU (c0 :: s1) ((y :: r).map (·.1)))))).length - (s1 ++ zAU (c0 :: s1) ((y :: r).map (·.1))).length : Nat)⟩) trivial trivial c (.inr (zRs hg.1)) ?_
  dsimp only
  rw [e2]
  exact ih
theorem Pc.keyed {a b c x y z : List Nat} (kp : Pc a b c) (xp : Pc x y z) : Pc (a ++ [61] ++ x) (zAU [61] [b, y]) (zAU [61] [c, z]) := by
 rw [List.append_assoc]
 exact kp.app ((Pc.calm [61] rfl).app xp)
noncomputable def zKu (a : List Nat) : Prop := (∀ c ∈ a, c ≠ 34 ∧ c ≠ 44) ∧ ∃ c r, a ++ [61] = c :: r ∧ Unicode.isSpace c = false
structure KOk (K : List Nat × List Nat) : Prop where
 pc : Pc K.1 K.1 K.2
 n1 : 61 ∉ K.1
 n2 : 61 ∉ K.2
 l1 : K.1.length ≤ 10
 l2 : K.2.length ≤ 10
 c1 : ∀ c ∈ K.1, c < 128
 c2 : ∀ c ∈ K.2, c < 128
 hd : ∃ c r, K.1 ++ [61] = c :: r ∧ Unicode.isSpace c = false ∧ ws c = false
 back : zKu K.2
theorem zRG (i : Nat) : KOk (ktab i) := by
 unfold ktab
 split
 ·exact ⟨Pc.calm [97] rfl, by decide, by decide, by decide, by decide, by decide, by decide, ⟨_, _, rfl, by decide +kernel, rfl⟩, by decide, _, _, rfl, by decide +kernel⟩
 ·exact ⟨Pc.calm [66] rfl, by decide, by decide, by decide, by decide, by decide, by decide, ⟨_, _, rfl, by decide +kernel, rfl⟩, by decide, _, _, rfl, by decide +kernel⟩
 ·exact ⟨Pc.nil, by decide, by decide, by decide, by decide, by decide, by decide, ⟨_, _, rfl, by decide +kernel, rfl⟩, by decide, _, _, rfl, by decide +kernel⟩
 ·exact ⟨Pc.quo [98, 32, 99] (by decide), by decide, by decide, by decide, by decide, by decide, by decide, ⟨_, _, rfl, by decide +kernel, rfl⟩, by decide, _, _, rfl, by decide +kernel⟩
 ·exact ⟨(Pc.calm [97] rfl).app (Pc.quo [] (by decide)), by decide, by decide, by decide, by decide, by decide, by decide, ⟨_, _, rfl, by decide +kernel, rfl⟩, by decide, _, _, rfl, by decide +kernel⟩
inductive PairN (Pk : List Nat → Prop) : List (List Nat) → Prop
 | x : PairN Pk [[120]]
 | two {a v : List Nat} : a.length ≤ 100 → v.length ≤ 100 → 61 ∉ a → Pk a → (∀ c ∈ a, c < 128) → (∀ c ∈ v, c < 128) → PairN Pk [a, v]
structure SeOk (e : Se) : Prop where
 pc : Pc e.1 (zAU [61] e.2.1) (zAU [61] e.2.2)
 tight : zIA (zAU [61] e.2.1)
 head : ∃ c r, e.1 = c :: r ∧ ws c = false
 ne : zAU [61] e.2.2 ≠ []
 ph : PairN (fun _ => True) e.2.1
 pl : PairN zKu e.2.2
 len : e.1.length ≤ 200
theorem zCi {l : List Nat} (h : ∀ c ∈ l, c < 128) : PyData.strOk (tx l) = true := strOk_of.mpr fun c hc => by
 rw [zAv] at hc
 have := h c hc
 lia
theorem PairN.ag {Pk : List Nat → Prop} {p : List (List Nat)} (h : PairN Pk p) : AgP (p.map tx) ∧ jn (p.map tx) = tx (zAU [61] p) := by
 cases h with
 | x => exact ⟨.one (by decide) (zCi (by decide)) (by decide +kernel), zJZ _⟩
 | @two a v h1 h2 h3 _ h4 h5 =>
  have e : jn [tx a, tx v] = tx (a ++ 61 :: v) := by
   rw [zMR, q61, zAL, zAL, List.append_assoc]; rfl
  refine ⟨.two (by rw [zAF]; lia) (by rw [zAF]; lia) (zCi h4) (zCi h5) ?_, e⟩
  show Txt.splitMax (jn [tx a, tx v]) "=" 1 = _
  rw [e]; exact zEJ a v h3
theorem zED {b y : List Nat} (h : ∃ c r, b ++ [61] = c :: r ∧ Unicode.isSpace c = false) (hy : y = [] ∨ ∃ r z, y = r ++ [z] ∧ Unicode.isSpace z = false) : zIA (zAU [61] [b, y]) := by
 obtain ⟨c, r, e, hc⟩ := h
 have e1 : zAU [61] [b, y] = (b ++ [61]) ++ y := by rw [List.append_assoc]; rfl
 refine ⟨⟨c, r ++ y, by rw [e1, e]; rfl, hc⟩, ?_⟩
 rcases hy with rfl | ⟨r2, z, rfl, hz⟩
 ·exact ⟨b, 61, by rw [e1, List.append_nil], by decide +kernel⟩
 ·exact ⟨(b ++ [61]) ++ r2, z, by rw [e1]; simp, hz⟩
theorem zKy : ∀ (n : Nat) (m : Int), ∀ c ∈ valN n m, c < 128
 | 0, _, c, h => absurd h List.not_mem_nil
 | n + 1, m, c, h => by
  rcases List.mem_cons.mp h with rfl | h
  ·have h0 : 0 ≤ (m.fdiv 8).fmod 8 := Int.fmod_nonneg_of_pos _ (by decide)
   have h1 : (m.fdiv 8).fmod 8 < 8 := Int.fmod_lt_of_pos _ (by decide)
   generalize (m.fdiv 8).fmod 8 = i at h0 h1
   have key : ∀ n : Fin 8, zDZ (n.1 : Int) < 128 := by decide +kernel
   have := key ⟨i.toNat, (Int.toNat_lt h0).mpr h1⟩
   rwa [Int.toNat_of_nonneg h0] at this
  ·exact zKy n _ c h
theorem zKY {K : List Nat × List Nat} (k : KOk K) (x : List Nat) : ∃ c r, K.1 ++ [61] ++ x = c :: r ∧ ws c = false := by
 obtain ⟨c, r, e, _, h⟩ := k.hd
 exact ⟨c, r ++ x, by rw [e]; rfl, h⟩
theorem zIc {K : List Nat × List Nat} (k : KOk K) {y : List Nat} (hy : y = [] ∨ ∃ r z, y = r ++ [z] ∧ Unicode.isSpace z = false) : zIA (zAU [61] [K.1, y]) := by
 obtain ⟨c, r, e, h, _⟩ := k.hd
 exact zED ⟨c, r, e, h⟩ hy
theorem zOW (a z : List Nat) : zAU [61] [a, z] ≠ [] := fun e => by
 have e' : a ++ ([61] ++ z) = [] := e
 simp at e'
theorem mem3 {P : Nat → Prop} {a b c : List Nat} (h1 : ∀ x ∈ a, P x) (h2 : ∀ x ∈ b, P x) (h3 : ∀ x ∈ c, P x) : ∀ x ∈ a ++ b ++ c, P x := fun x hx => by
 rcases List.mem_append.mp hx with h | h
 ·rcases List.mem_append.mp h with h | h
  ·exact h1 x h
  ·exact h2 x h
 ·exact h3 x h
theorem zGV {K : List Nat × List Nat} (k : KOk K) {x y z : List Nat} (p : Pc x y z) (hy : y = [] ∨ ∃ r z, y = r ++ [z] ∧ Unicode.isSpace z = false) (lx : x.length ≤ 100) (ly : y.length ≤ 100) (lz : z.length ≤ 100) (cy : ∀ c ∈ y, c < 128) (cz : ∀ c ∈ z, c < 128) : SeOk (K.1 ++ [61] ++ x, [K.1, y], [K.2, z]) :=
 ⟨k.pc.keyed p, zIc k hy, zKY k x, zOW _ _, .two (Nat.le_trans k.l1 (by decide)) ly k.n1 trivial k.c1 cy, .two (Nat.le_trans k.l2 (by decide)) lz k.n2 k.back k.c2 cz, by
  have := k.l1
  show (K.1 ++ [61] ++ x).length ≤ 200
  simp only [List.length_append, List.length_cons, List.length_nil]; lia⟩
theorem zQZ {K : List Nat × List Nat} (k : KOk K) (s : Int) {v : List Nat} (hv : v.length ≤ 10) (hc : ∀ c ∈ v, c < 128) : SeOk (setV K s v) := by
 have c34 : ∀ c ∈ [34], c < 128 := by decide
 have s34 : Unicode.isSpace 34 = false := by decide +kernel
 unfold setV
 split
 ·have h1 := zGe v
  have h2 := zEf v
  refine zGV k (Pc.all v) (.inr ⟨[34] ++ v, 34, rfl, s34⟩) (by simp; lia) (by simp; lia) (by lia) (mem3 c34 hc c34) fun c h => ?_
  obtain ⟨d, hd, h⟩ := List.mem_flatMap.mp h
  unfold zEg at h
  split at h
  ·rw [List.mem_singleton.mp h]; exact hc d hd
  ·rcases List.mem_cons.mp h with rfl | h
   ·decide
   ·rw [List.mem_singleton.mp h]; exact hc d hd
 ·dsimp only
  have gen : ∀ h e : List Nat, (h = [] ∨ h = [55]) → (e = [] ∨ e = [55]) → SeOk (K.1 ++ [61] ++ h ++ zBV v ++ e, [K.1, h ++ [34] ++ v ++ [34] ++ e], [K.2, h ++ v ++ e]) := fun h e hh he => by
   have ph : Pc h h h := by rcases hh with rfl | rfl; exact Pc.nil; exact Pc.calm [55] rfl
   have pe : Pc e e e := by rcases he with rfl | rfl; exact Pc.nil; exact Pc.calm [55] rfl
   have lh : h.length ≤ 1 := by rcases hh with rfl | rfl <;> decide
   have le : e.length ≤ 1 := by rcases he with rfl | rfl <;> decide
   have ch : ∀ c ∈ h, c < 128 := by rcases hh with rfl | rfl <;> decide
   have ce : ∀ c ∈ e, c < 128 := by rcases he with rfl | rfl <;> decide
   have hm := zDC v
   have e1 : K.1 ++ [61] ++ h ++ zBV v ++ e = K.1 ++ [61] ++ (h ++ zBV v ++ e) := by simp
   have e2 : h ++ [34] ++ v ++ [34] ++ e = h ++ ([34] ++ v ++ [34]) ++ e := by simp
   rw [e1, e2]
   refine zGV k ((ph.app (Pc.mark v)).app pe) (.inr ?_) ?_ ?_ ?_ (mem3 ch (mem3 c34 hc c34) ce) (mem3 ch hc ce)
   ·rcases he with rfl | rfl
    ·exact ⟨h ++ ([34] ++ v), 34, by simp, s34⟩
    ·exact ⟨h ++ ([34] ++ v ++ [34]), 55, by simp, by decide +kernel⟩
   ·unfold zBV; simp only [List.length_append, List.length_cons, List.length_nil]; lia
   ·simp only [List.length_append, List.length_cons, List.length_nil]; lia
   ·simp only [List.length_append]; lia
  refine gen _ _ ?_ ?_
  ·split
   ·exact .inr rfl
   ·exact .inl rfl
  ·split
   ·exact .inr rfl
   ·exact .inl rfl
theorem zQa (x : Int) : SeOk (setN x) := by
 have k := zRG ((x.fdiv 8).fmod 5).toNat
 unfold setN
 generalize ktab ((x.fdiv 8).fmod 5).toNat = K at k
 unfold setT
 split
 ·split
  ·exact ⟨Pc.calm [120] rfl, ⟨⟨120, [], rfl, by decide +kernel⟩, ⟨[], 120, rfl, by decide +kernel⟩⟩, ⟨120, [], rfl, rfl⟩, List.cons_ne_nil _ _, .x, .x, by show 1 ≤ 200; decide⟩
  ·exact ⟨Pc.quo [97, 61, 55] (by decide), ⟨⟨34, _, rfl, by decide +kernel⟩, ⟨[34, 97, 61, 55], 34, rfl, by decide +kernel⟩⟩, ⟨34, _, rfl, rfl⟩, List.cons_ne_nil _ _, .two (by decide) (by decide) (by decide) trivial (by decide) (by decide), .two (by decide) (by decide) (by decide) ⟨by decide, _, _, rfl, by decide +kernel⟩ (by decide) (by decide), by show 5 ≤ 200; decide⟩
 ·split
  ·have := zGV k Pc.nil (.inl rfl) (by decide) (by decide) (by decide) (by decide) (by decide)
   rw [List.append_nil] at this
   exact this
  ·have h4 : (x.fdiv 40).fmod 4 < 4 := Int.fmod_lt_of_pos _ (by decide)
   exact zQZ k _ (by rw [zFz]; lia) (zKy _ _)
theorem zHG (k v : Str) : ∀ fs : List (Str × Str), (fs.map (·.1)).Nodup → ((put k v fs).map (·.1)).Nodup
 | [], _ => by
  show [k].Nodup
  exact List.nodup_cons.mpr ⟨List.not_mem_nil, List.nodup_nil⟩
 | (y, a) :: r, h => by
  rw [List.map_cons, List.nodup_cons] at h
  unfold put
  cases q : Fast.sEq k y with
  | true => exact List.nodup_cons.mpr h
  | false =>
   refine List.nodup_cons.mpr ⟨fun hm => ?_, zHG k v r h.2⟩
   obtain ⟨p, hp, e⟩ := List.mem_map.mp hm
   rcases zGM hp with hp | ⟨_, h2 | ⟨z, hz, h2⟩⟩
   ·exact h.1 (List.mem_map.mpr ⟨p, hp, e⟩)
   ·exact zAZ q (h2.symm.trans e)
   ·exact h.1 (List.mem_map.mpr ⟨z, hz, h2.trans e⟩)
theorem zFo (pairs : List (List Str)) : ∀ (rows : List (Str × Str)) (n : Nat), (rows.map (·.1)).Nodup → ((dueS pairs rows n).1.map (·.1)).Nodup := by
 induction pairs with
 | nil => exact fun rows n h => h
 | cons p r ih =>
  intro rows n h
  cases p with
  | nil => exact h
  | cons a q =>
   cases q with
   | nil => exact h
   | cons v q =>
    show List.Nodup (List.map (fun (p : Str × Str) => p.1) (match Fast.sEq v "" with | true => (rows, "IndexError", n) | false => dueS r (put a (unq2 v) rows) (n + 1)).1)
    cases e : Fast.sEq v "" with
    | true => exact h
    | false => exact ih _ _ (zHG a _ rows h)
theorem zLm (k v : Str) : ∀ fs : List (Str × Str), k ∉ fs.map (·.1) → put k v fs = fs ++ [(k, v)]
 | [], _ => rfl
 | (y, a) :: r, h => by
  rw [List.map_cons, List.mem_cons, not_or] at h
  have q : Fast.sEq k y = false := by
   cases q : Fast.sEq k y with
   | false => rfl
   | true => exact absurd (zAO q) h.1
  show put k v ((y, a) :: r) = (y, a) :: (r ++ [(k, v)])
  rw [← zLm k v r h.2]
  conv => lhs; unfold put
  rw [q]
noncomputable def quoT (v : Str) : Str := tx (quo v.cps.toList)
theorem zPU : ∀ (rows fs : List (Str × Str)), ((fs ++ rows).map fun (p : Str × Str) => p.1).Nodup → dput (rows.map fun (p : Str × Str) => (p.1, quoT p.2)) fs = fs ++ rows
 | [], fs, _ => (List.append_nil fs).symm
 | (k, v) :: r, fs, h => by
  have e1 : fs ++ (k, v) :: r = (fs ++ [(k, v)]) ++ r := by simp
  have hk : k ∉ fs.map (·.1) := fun hm => by
   rw [List.map_append, List.nodup_append] at h
   exact h.2.2 k hm k (.head _) rfl
  show dput (r.map fun p => (p.1, quoT p.2)) (put k (unq (quoT v)) fs) = _
  have e2 : unq (quoT v) = v := by
   unfold quoT
   rw [zPt, zIB]
  rw [e2, zLm k v fs hk, e1]
  exact zPU r _ (by rw [← e1]; exact h)
noncomputable def kq (p : Str × Str) : List Nat := p.1.cps.toList ++ [61] ++ quo p.2.cps.toList
noncomputable def RowS (p : Str × Str) : Prop := 61 ∉ p.1.cps.toList ∧ p.1.length ≤ 1000 ∧ p.2.length ≤ 1000
theorem zMN {p : Str × Str} (h : RowS p) : (kq p).length ≤ 3000 := by
 have h1 : p.1.cps.toList.length = p.1.length := by simp [Str.length]
 have h2 : p.2.cps.toList.length = p.2.length := by simp [Str.length]
 unfold kq quo
 simp only [List.length_append, List.length_cons, List.length_nil]
 have := h.2.1; have := h.2.2
 lia
theorem zHP : ∀ rows : List (Str × Str), (∀ p ∈ rows, RowS p) → KvOk (rows.map fun p => tx (kq p)) (rows.map fun p => (p.1, quoT p.2))
 | [], _ => .nil
 | p :: r, h => by
  obtain ⟨h1, h2, h3⟩ := h p (.head _)
  have hl := zMN (h p (.head _))
  have hq : (quoT p.2).length ≤ 3000 := by
   unfold quoT
   rw [zAF]
   unfold kq at hl
   simp only [List.length_append] at hl
   lia
  refine .cons ?_ ?_ (by rw [zAF]; lia) (by lia) (by lia) (zHP r fun q hq => h q (.tail _ hq))
  ·have := zEJ p.1.cps.toList (quo p.2.cps.toList) h1
   rw [zIB] at this
   rw [← show p.1.cps.toList ++ [61] ++ quo p.2.cps.toList = p.1.cps.toList ++ 61 :: quo p.2.cps.toList from by simp] at this
   exact this
  ·unfold quoT quo
   rw [zAF, List.length_cons]
   exact Nat.succ_ne_zero _
theorem zGo {rows : List (Str × Str)} (nd : (rows.map (·.1)).Nodup) (h : ∀ p ∈ rows, RowS p) (hl : rows.length ≤ 100) : Told (rows.map fun p => tx (kq p)) (tlD rows "") := by
 have := Told.good (zHP rows h) (by rw [List.length_map]; lia)
 rw [zPU rows [] (by rw [List.nil_append]; exact nd), List.nil_append] at this
 exact this
theorem zDs (B : Nat) : ∀ l : List (List Nat), (∀ x ∈ l, x.length ≤ B) → (l.map List.length).sum ≤ l.length * B
 | [], _ => Nat.zero_le _
 | x :: r, h => by
  have h1 := h x (.head _)
  have h2 := zDs B r fun y hy => h y (.tail _ hy)
  rw [List.map_cons, List.sum_cons, List.length_cons, Nat.add_mul]
  lia
theorem zCy (sep : List Nat) (B : Nat) (l : List (List Nat)) (h : ∀ x ∈ l, x.length ≤ B) : (zAU sep l).length ≤ l.length * B + l.length * sep.length := by
 have h1 := zHU sep l
 have h2 := zDs B l h
 lia
theorem zGW {sep : List Nat} {ts : List (List Nat)} {st : St} {K : Kt} (B : Nat) (hB : ∀ x ∈ ts, x.length ≤ B) (hb : ts.length * B + ts.length * sep.length ≤ 1000000) (h : K (.v (.str (tx (zAU sep ts)))) st) : zOd (tx sep) (.dat (.list (ts.map fun t => .str (tx t)))) st K := by
 have ej : Txt.join (tx sep) (ts.map tx) = tx (zAU sep ts) := by rw [zGn, zIi]
 have h2 := zDs B ts hB
 have h3 := zCy sep B ts hB
 show ∃ us : List Str, ts.map (fun t => PyData.str (tx t)) = us.map .str ∧ JoinOk (tx sep) us = true ∧ (Txt.join (tx sep) us).length ≤ sizeLine ∧ K (.v (.str (Txt.join (tx sep) us))) st
 refine ⟨ts.map tx, by rw [List.map_map]; rfl, zCx ?_, ?_, by rw [ej]; exact h⟩
 ·rw [zIa, List.length_map, zAF]; lia
 ·rw [ej, zAF, sizeLine_eq]; lia
theorem zGz {Pk : List Nat → Prop} (PP : List (List (List Nat))) (h : ∀ p ∈ PP, PairN Pk p) : ∀ p ∈ (dueS (PP.map (List.map tx)) [] 0).1, RowS p ∧ zIv p ∧ Pk p.1.cps.toList := by
 have := zJb (Pk := fun a => 61 ∉ a.cps.toList ∧ a.length ≤ 1000 ∧ PyData.strOk a = true ∧ Pk a.cps.toList) (Pv := fun v => v.length ≤ 1000 ∧ PyData.strOk v = true) (PP.map (List.map tx)) [] 0 (fun p hp a v r e hv => ?_) (fun p hp => nomatch hp)
 ·intro p hp
  obtain ⟨⟨a1, a2, a3, a4⟩, b1, b2⟩ := this p hp
  exact ⟨⟨a1, a2, b1⟩, ⟨a3, b2⟩, a4⟩
 ·obtain ⟨q, hq, rfl⟩ := List.mem_map.mp hp
  cases h q hq with
  | x => cases e
  | @two a' v' h1 h2 h3 h4 h5 h6 =>
   cases e
   have hl := zPJ (tx v')
   rw [zIw hv, zAF] at hl
   exact ⟨⟨by rw [zAv]; exact h3, by rw [zAF]; lia, zCi h5, by rw [zAv]; exact h4⟩, by lia, zFU hv (zCi h6)⟩
theorem zSW (p : Str × Str) : p.1 ++ "=\"" ++ p.2 ++ "\"" = tx (kq p) := by
 have e : ("=\"" : Str) = tx [61, 34] := by rfl
 have h := zIB p.1
 have g := zIB p.2
 unfold kq quo
 generalize p.1.cps.toList = a at h
 generalize p.2.cps.toList = b at g
 rw [← h, ← g, e, q34, zAL, zAL, zAL]
 congr 1
 simp
theorem zRy (n : Nat) (led : List SO) (hn : L1.length ≤ n) : SosT n led L1 L1 := .cons .tab (.cons (.list (zBK _ _ [", ", ","])) .nil)
theorem zJE (n : Nat) (led : List SO) (hn : L2.length ≤ n) : SosT n led L2 L2 := .cons .tab (.cons (.list (zBK _ _ [", ", ","])) (.cons (.list (zBK _ _ [" ", "\n", " \t", "\r "])) .nil))
theorem zRx (rs : List PyData) (n : Nat) (led : List SO) (hn : (L3 rs).length ≤ n) : SosT n led (L3 rs) (L3 rs) := .cons .tab (.cons (.list (zBK _ _ [", ", ","])) (.cons (.list (zBK _ _ [" ", "\n", " \t", "\r "])) (.cons (.tup (.cons (.same trivial) (.cons (.same trivial) .nil))) .nil)))
theorem zTb (d : List PyData) (v : SV) : put "settings" v (laA d []) = laA d [("settings", v)] := by kernel_rfl
theorem zTa (d : List PyData) (s v : SV) : put "total" v (laA d [("settings", s)]) = laA d [("settings", s), ("total", v)] := by kernel_rfl
theorem zTd (d ss : List PyData) (t : Int) (v : SV) : put "header" v (laB d ss t []) = laB d ss t [("header", v)] := by kernel_rfl
theorem zTc (d ss : List PyData) (t : Int) (h : Str) (v : SV) : put "line" v (laB d ss t [("header", .str h)]) = laB d ss t [("header", .str h), ("line", v)] := by kernel_rfl
theorem zSI (d ss : List PyData) (t : Int) (h n : Str) (v : SV) : put "in_header" v (laH d ss t h n []) = laH d ss t h n [("in_header", v)] := by kernel_rfl
theorem zSH (d ss : List PyData) (t : Int) (h n : Str) (u v : SV) : put "in_line" v (laH d ss t h n [("in_header", u)]) = laH d ss t h n [("in_header", u), ("in_line", v)] := by kernel_rfl
theorem zTe (d ss : List PyData) (t : Int) (h n : Str) (ih il : List PyData) (u v : SV) : put "crossed" v (laC d ss t h n ih il [("rows", u)]) = laC d ss t h n ih il [("rows", u), ("crossed", v)] := by kernel_rfl
theorem zSJ (d ss : List PyData) (t : Int) (h n x : Str) (ih il rs rb : List PyData) (v : SV) : put "crossed_back" v (laR d ss t h n x ih il rs rb []) = laR d ss t h n x ih il rs rb [("crossed_back", v)] := by kernel_rfl
theorem due0 (pairs : List (List Str)) : idxP ((dueL pairs).map svOf) 0 (.dat (.list (zAd (dueS pairs [] 0).1))) := zBB (i := 0) rfl (by show 3 ≤ 1000000; decide)
theorem zLv (m : Nat) (d ss : List PyData) (t : Int) (h n : Str) (ih il : List PyData) {more : List (Str × SV)} (hm : okF m more) : okF m (laC d ss t h n ih il more) := ⟨trivial, trivial, trivial, trivial, trivial, trivial, trivial, hm⟩
theorem zJW {v : List Nat} (h : v.length ≤ 1000) : (zBV v).length ≤ 2010 := by
 have := zDC v
 unfold zBV
 simp only [List.length_cons, List.length_append, List.length_nil]; lia
theorem zIo (s : Str) : s.cps.toList.length = s.length := by simp [Str.length]
noncomputable def kb (p : Str × Str) : List Nat := p.1.cps.toList ++ [61] ++ zBV p.2.cps.toList
theorem zSX (p : Str × Str) : p.1 ++ "=" ++ tx (zBV p.2.cps.toList) = tx (kb p) := by
 have h := zIB p.1
 unfold kb
 generalize p.1.cps.toList = a at h
 rw [← h, q61, zAL, zAL]
theorem zKs (R : List (Str × Str)) (h : ∀ p ∈ R, RowS p ∧ zIv p ∧ zKu p.1.cps.toList) : zBy (zAU [44, 32] (R.map kb)) = R.map fun p => tx (kq p) := by
 have := zEl (s := [32]) (.inr rfl) (R.map fun p => (kb p, kq p)) (fun y hy => ?_) fun y hy => ?_
 ·rw [List.map_map, List.map_map] at this
  exact this
 ·obtain ⟨p, hp, rfl⟩ := List.mem_map.mp hy
  have hb := (h p hp).2.2
  have e : kq p = p.1.cps.toList ++ [61] ++ ([34] ++ p.2.cps.toList ++ [34]) := rfl
  show Thru (kb p) (kq p)
  rw [e]
  exact zGB (zGB (zCK _ fun c hc => ⟨(hb.1 c hc).1, (hb.1 c hc).2⟩) (Pc.calm [61] rfl).1) (Pc.mark _).1
 ·obtain ⟨p, hp, rfl⟩ := List.mem_map.mp hy
  have hb := (h p hp).2.2
  have := zED hb.2 (y := quo p.2.cps.toList) (.inr ⟨34 :: p.2.cps.toList, 34, rfl, by decide +kernel⟩)
  show zIA (kq p)
  unfold kq
  rw [List.append_assoc]
  exact this
theorem zSS (P : Params) {d ss ih rs : List PyData} {t : Int} {h n x : Str} {k : Kt} (PP : List (List (List Nat))) (hP : ∀ p ∈ PP, PairN zKu p) (hl : PP.length ≤ 8) (hk : ∀ loc l, k (.ret (.bool true)) ⟨loc, .tab 758 :: l⟩) :
  ev (cfLa P) 289 zAh (.sts (bo803.drop 11)) ⟨laC d ss t h n ih (zAW (PP.map (List.map tx))) [("rows", .dat (.list rs)), ("crossed", .str x)], L3 rs⟩ k := by
 have hrow := zGz PP hP
 have hnd := zFo (PP.map (List.map tx)) [] 0 List.nodup_nil
 have hlen := zGf (PP.map (List.map tx)) [] 0
 rw [List.length_map, List.length_nil, Nat.zero_add] at hlen
 rw [la11]
 refine ⟨_, rfl, fun p hp => ?_, by rw [List.length_map]; lia, _, due0 _, ?_⟩
 ·obtain ⟨q, hq, rfl⟩ := List.mem_map.mp hp
  exact (hP q hq).ag.1.ok
 generalize (dueS (PP.map (List.map tx)) [] 0).1 = R at hrow hnd hlen
 show ev (cfLa P) 288 zAh (.sts (bo803.drop 12)) ⟨laR d ss t h n x ih (zAW (PP.map (List.map tx))) rs (zAd R) [], L3 rs⟩ k
 rw [la12]
 refine zBa (pre := L3 rs) (laR d ss t h n x ih (zAW (PP.map (List.map tx))) rs (zAd R) []) _ R (fun p => .tuple [.str p.1, .str p.2]) (fun p => .str (tx (kb p))) (zRx rs) (zLv _ _ _ _ _ _ _ _ ⟨trivial, trivial, trivial, trivial⟩) (by lia) (fun p led K D hp hK => ?_) ?_
 ·obtain ⟨⟨_, l1, l2⟩, _, _⟩ := hrow p hp
  have hm := zJW (v := p.2.cps.toList) (by rw [zIo]; exact l2)
  show zAN cn12 (zAm lc12) (.dat (.tuple [.str p.1, .str p.2])) ⟨[], led⟩ _
  rw [zTk]
  refine ⟨false, [.str p.1, .str p.2], rfl, zSV.1.symm, ?_⟩
  rw [zSV.2, zTl, zSX]
  have e1 : ("=" : Str).length = 1 := rfl
  refine ⟨szN (by rw [e1]; lia), by lia, szN (by rw [zBF, zAF, e1]; lia), hK _⟩
 ·have em : R.map (fun p => PyData.str (tx (kb p))) = (R.map kb).map fun t => .str (tx t) := by rw [List.map_map]; rfl
  rw [em, show (", " : Str) = tx [44, 32] from by rfl]
  have hb : ∀ y ∈ R.map kb, y.length ≤ 4000 := fun y hy => by
   obtain ⟨p, hp, rfl⟩ := List.mem_map.mp hy
   obtain ⟨⟨_, l1, l2⟩, _, _⟩ := hrow p hp
   have hm := zJW (v := p.2.cps.toList) (by rw [zIo]; exact l2)
   unfold kb
   simp only [List.length_append, List.length_cons, List.length_nil, zIo]
   lia
  have hRl : (R.map kb).length ≤ 8 := by rw [List.length_map]; lia
  have hjl := zCy [44, 32] 4000 (R.map kb) hb
  have h2 : [44, 32].length = 2 := rfl
  refine zGW 4000 hb (by rw [h2]; lia) ?_
  rw [zGO]
  dsimp only
  rw [zSJ, la13, zAv, zKs R hrow]
  refine ⟨by rw [zAF]; rw [h2] at hjl; lia, R.map fun p => tx (kq p), _, rfl, zGo hnd (fun p hp => (hrow p hp).1) (by lia), ?_⟩
  rw [zGO, zTj, zIr]
  exact zDr rfl (by decide) (fun p hp => (hrow p hp).2.1) (by decide +kernel) (hk _ _)
theorem zNP (x : List Nat) : (zAt x).length ≤ 5 * x.length + 2 := by
 unfold zAt
 split
 ·lia
 ·have := zGK 39 qm 5 (by decide) (by decide) x
  simp only [List.length_cons, List.length_append, List.length_nil]
  lia
theorem zCR : ∀ l : List (List Nat), zHM l = zAU [32] (l.map zAt)
 | [] => rfl
 | [x] => rfl
 | x :: y :: r => by
  show zAt x ++ 32 :: zHM (y :: r) = zAt x ++ ([32] ++ zAU [32] ((y :: r).map zAt))
  rw [zCR (y :: r)]; rfl
theorem zMI (l : List (List Nat)) (hn : ∀ x ∈ l, x ≠ []) (h : (zHM l).length ≤ sizeLine) : LexAll (tx (zHM l)) (.str " ") 1 0 (l.map tx) := by
 have := zEc 32 [] rfl rfl (l.map fun x => (zAt x, x)) [] [] 1 rfl (fun w hw => by
  obtain ⟨x, hx, rfl⟩ := List.mem_map.mp hw
  exact zOl (hn x hx)) (by rw [List.map_map, List.nil_append, List.nil_append]; show (zAU [32] (l.map zAt)).length ≤ _; rw [← zCR]; exact h) (.inr rfl)
 rw [List.map_map, List.map_map] at this
 rw [zCR]
 exact this
theorem zST (P : Params) {d ss : List PyData} {t : Int} {h n : Str} {k : Kt} (HH LL : List (List (List Nat))) (hH : ∀ p ∈ HH, PairN (fun _ => True) p) (hL : ∀ p ∈ LL, PairN zKu p) (lH : HH.length ≤ 8) (lL : LL.length ≤ 8) (hk : ∀ loc l, k (.ret (.bool true)) ⟨loc, .tab 758 :: l⟩) :
  ev (cfLa P) 292 zAh (.sts (bo803.drop 8)) ⟨laC d ss t h n (zAW (HH.map (List.map tx))) (zAW (LL.map (List.map tx))) [], L2⟩ k := by
 have hrow := zGz HH hH
 have hnd := zFo (HH.map (List.map tx)) [] 0 List.nodup_nil
 have hlen := zGf (HH.map (List.map tx)) [] 0
 rw [List.length_map, List.length_nil, Nat.zero_add] at hlen
 rw [la8]
 refine ⟨_, rfl, fun p hp => ?_, by rw [List.length_map]; lia, _, due0 _, ?_⟩
 ·obtain ⟨q, hq, rfl⟩ := List.mem_map.mp hp
  exact (hH q hq).ag.1.ok
 generalize (dueS (HH.map (List.map tx)) [] 0).1 = R at hrow hnd hlen
 rw [la9]
 refine zBa (pre := L2) (laC d ss t h n (zAW (HH.map (List.map tx))) (zAW (LL.map (List.map tx))) [("rows", .dat (.list (zAd R)))]) _ R (fun p => .tuple [.str p.1, .str p.2]) (fun p => .str (tx (kq p))) zJE (zLv _ _ _ _ _ _ _ _ ⟨trivial, trivial⟩) (by lia) (fun p led K D hp hK => ?_) ?_
 ·obtain ⟨⟨_, l1, l2⟩, _, _⟩ := hrow p hp
  show zAN cn9 (zAm lc9) (.dat (.tuple [.str p.1, .str p.2])) ⟨[], led⟩ _
  rw [la9t]
  refine ⟨false, [.str p.1, .str p.2], rfl, la9u.1.symm, ?_⟩
  rw [la9u.2, la9e, zSW]
  have e1 : ("=\"" : Str).length = 2 := rfl
  have e2 : ("\"" : Str).length = 1 := rfl
  refine ⟨szN (by rw [e1]; lia), szN (by rw [zBF, e1]; lia), szN (by rw [zBF, zBF, e1, e2]; lia), hK _⟩
 ·have hb : ∀ y ∈ (R.map kq).map zAt, y.length ≤ 15002 := fun y hy => by
   obtain ⟨z, hz, rfl⟩ := List.mem_map.mp hy
   obtain ⟨p, hp, rfl⟩ := List.mem_map.mp hz
   have := zMN (hrow p hp).1
   have := zNP (kq p)
   lia
  have hRl : ((R.map kq).map zAt).length ≤ 8 := by rw [List.length_map, List.length_map]; lia
  have hsum := zDs 15002 _ hb
  have hjl := zCy [32] 15002 _ hb
  have h1 : [32].length = 1 := rfl
  rw [h1] at hjl
  rw [← zCR] at hjl
  have eW : ((R.map fun p => tx (kq p)).map zDj) = ((R.map kq).map zAt).map tx := by
   rw [List.map_map, List.map_map, List.map_map]
   refine List.map_congr_left fun p _ => ?_
   show tx (zAt (tx (kq p)).cps.toList) = tx (zAt (kq p))
   rw [zAv]
  have eJ : Txt.join " " (((R.map kq).map zAt).map tx) = tx (zHM (R.map kq)) := by
   rw [zGn, List.map_map]
   exact zFf (R.map kq)
  have eL : (" " : Str).length = 1 := rfl
  show zOe [.dat (.list (R.map fun p => .str (tx (kq p))))] ⟨laC _ _ _ _ _ _ _ [("rows", .dat (.list (zAd R)))], L2⟩ _
  refine ⟨⟨_, rfl⟩, R.map fun p => tx (kq p), by rw [List.map_map]; rfl, fun x hx => ?_, ?_, ?_, ?_⟩
  ·obtain ⟨p, hp, rfl⟩ := List.mem_map.mp hx
   have := zMN (hrow p hp).1
   rw [zAF]; lia
  ·rw [eW]
   refine zCx ?_
   rw [zIa, List.length_map, eL]
   lia
  ·rw [eW, eJ, zAF, sizeLine_eq]; lia
  ·rw [eW, eJ, zGO]
   dsimp only
   rw [zTe, la10]
   refine ⟨(R.map kq).map tx, zMI _ (fun x hx => by obtain ⟨p, _, rfl⟩ := List.mem_map.mp hx; exact fun e => by simp [kq] at e) (by rw [sizeLine_eq]; lia), by rw [List.length_map, List.length_map, sizeLine_eq]; lia, R.map fun p => tx (kq p), _, by rw [List.map_map, List.map_map, List.map_map]; rfl, zGo hnd (fun p hp => (hrow p hp).1) (by lia), ?_⟩
   rw [zGO, zTm, zIq]
   refine zDr rfl (by decide) (fun p hp => (hrow p hp).2.1) (by decide +kernel) ?_
   exact zSS P LL hL lL hk
theorem zJR {Pk : List Nat → Prop} {PP : List (List (List Nat))} (hP : ∀ p ∈ PP, PairN Pk p) : ∀ p ∈ PP.map (List.map tx), AgP p := fun p hp => by
 obtain ⟨q, hq, rfl⟩ := List.mem_map.mp hp
 exact (hP q hq).ag.1
theorem zPc {Pk : List Nat → Prop} {PP : List (List (List Nat))} (hP : ∀ p ∈ PP, PairN Pk p) : (PP.map (List.map tx)).map jn = PP.map fun p => tx (zAU [61] p) := by
 rw [List.map_map]
 exact List.map_congr_left fun p hp => (hP p hp).ag.2
theorem zFw {is : List Str} {pairs : List (List Str)} {st : St} {k : Kt} (h1 : is = pairs.map jn) (h2 : ∀ p ∈ pairs, AgP p) (h3 : pairs.length ≤ 100) (hk : k (.v (.bool true)) st) : zFF [.dat (.list (is.map .str)), .dat (.list (zAW pairs))] st k :=
 ⟨pairs, by rw [h1], rfl, h2, h3, hk⟩
theorem zSU (P : Params) {d ss : List PyData} {t : Int} {h n : List Nat} {k : Kt} (S : List Se) (hS : ∀ e ∈ S, SeOk e) (lS : S.length ≤ 8) (hh : zBy h = S.map fun e => tx (zAU [61] e.2.1)) (hn : LexAll (tx n) (.str " ") 1 0 (S.map fun e => tx (zAU [61] e.2.2))) (lh : h.length ≤ 1000000)
  (hk : ∀ loc l, k (.ret (.bool true)) ⟨loc, .tab 758 :: l⟩) :
  ev (cfLa P) 294 zAh (.sts (bo803.drop 6)) ⟨laC d ss t (tx h) (tx n) (zAW ((S.map fun e => e.2.1).map (List.map tx))) (zAW ((S.map fun e => e.2.2).map (List.map tx))) [], L2⟩ k := by
 have hH : ∀ p ∈ S.map (fun e => e.2.1), PairN (fun _ => True) p := fun p hp => by
  obtain ⟨e, he, rfl⟩ := List.mem_map.mp hp
  exact (hS e he).ph
 have hL : ∀ p ∈ S.map (fun e => e.2.2), PairN zKu p := fun p hp => by
  obtain ⟨e, he, rfl⟩ := List.mem_map.mp hp
  exact (hS e he).pl
 rw [la6, zAv, hh]
 refine ⟨by rw [zAF]; exact lh, zFw ?_ (zJR hH) (by rw [List.length_map, List.length_map]; lia) ?_⟩
 ·rw [zPc hH, List.map_map]; rfl
 ·show ev (cfLa P) 293 zAh (.sts (bo803.drop 7)) ⟨laC d ss t (tx h) (tx n) _ _ [], L2⟩ k
  rw [la7]
  refine ⟨_, hn, by rw [List.length_map, sizeLine_eq]; lia, zFw ?_ (zJR hL) (by rw [List.length_map, List.length_map]; lia) ?_⟩
  ·rw [zPc hL, List.map_map]; rfl
  ·show ev (cfLa P) 292 zAh (.sts (bo803.drop 8)) ⟨laC d ss t (tx h) (tx n) _ _ [], L2⟩ k
   exact zST P _ _ hH hL (by rw [List.length_map]; exact lS) (by rw [List.length_map]; exact lS) hk
theorem zTW {i : Int} (h0 : 0 ≤ i) (h1 : i < 2) : ∃ s, (s = [] ∨ s = [32]) ∧ idxP [.str ", ", .str ","] i (.str (tx (44 :: s))) := by
 have : i = 0 ∨ i = 1 := by lia
 rcases this with rfl | rfl
 ·exact ⟨[32], .inr rfl, zBB (i := 0) rfl (by decide)⟩
 ·exact ⟨[], .inl rfl, zBB (i := 1) rfl (by decide)⟩
theorem zTV {i : Int} (h0 : 0 ≤ i) (h1 : i < 4) : ∃ c s, ws c = true ∧ s.all ws = true ∧ s.length ≤ 1 ∧ idxP [.str " ", .str "\n", .str " \t", .str "\r "] i (.str (tx (c :: s))) := by
 have : i = 0 ∨ i = 1 ∨ i = 2 ∨ i = 3 := by lia
 rcases this with rfl | rfl | rfl | rfl
 ·exact ⟨32, [], rfl, rfl, by decide, zBB (i := 0) rfl (by decide)⟩
 ·exact ⟨10, [], rfl, rfl, by decide, zBB (i := 1) rfl (by decide)⟩
 ·exact ⟨32, [9], rfl, rfl, by decide, zBB (i := 2) rfl (by decide)⟩
 ·exact ⟨13, [32], rfl, rfl, by decide, zBB (i := 3) rfl (by decide)⟩
theorem zOU (P : Params) (xs : List Int) (k : Kt) (hk : ∀ loc l, k (.ret (.bool true)) ⟨loc, .tab 758 :: l⟩) : ev (cfLa P) 300 zAh (.sts bo803) ⟨laA (xs.map .int) [], [.tab 758]⟩ k := by
 have e8 : slD (xs.map PyData.int) none (some 8) = (xs.take 8).map .int := by
  rw [show (8 : Int) = ((8 : Nat) : Int) from rfl, zGG, List.map_take]
 have l8 : (xs.take 8).length ≤ 8 := by rw [List.length_take]; lia
 rw [la0, e8]
 refine zBa (pre := [.tab 758]) (laA (xs.map .int) []) _ (xs.take 8) .int (fun x => setD (setN x)) (fun _ _ _ => .cons .tab .nil) ⟨trivial, trivial⟩ (by lia) (fun x led K D _ h => ?_) ?_
 ·show zAN cn0 (zAm lc0) (.int x) ⟨[], led⟩ _
  rw [la0e]; exact h _
 dsimp only
 rw [zTb, la1]
 refine ⟨rfl, rfl, xs, _, _, rfl, ?_⟩
 rw [zGO]
 dsimp only
 rw [zTa]
 generalize (xs.take 8).sum = t
 have eS : (xs.take 8).map (fun x => setD (setN x)) = ((xs.take 8).map setN).map setD := by rw [List.map_map]; rfl
 rw [eS]
 have hS : ∀ e ∈ (xs.take 8).map setN, SeOk e := fun e he => by
  obtain ⟨x, _, rfl⟩ := List.mem_map.mp he
  exact zQa x
 have lS : ((xs.take 8).map setN).length ≤ 8 := by rw [List.length_map]; exact l8
 generalize (xs.take 8).map setN = S at hS lS
 have hraw : ∀ x ∈ S.map (·.1), x.length ≤ 200 := fun x hx => by
  obtain ⟨e, he, rfl⟩ := List.mem_map.mp hx
  exact (hS e he).len
 have lraw : (S.map (·.1)).length ≤ 8 := by rw [List.length_map]; exact lS
 have eraw : S.map (fun e => PyData.str (tx e.1)) = (S.map (·.1)).map fun t => .str (tx t) := by rw [List.map_map]; rfl
 rw [la2]
 obtain ⟨sp, hsp, hidx⟩ := zTW (Int.fmod_nonneg_of_pos t (show (0 : Int) < 2 by decide)) (Int.fmod_lt_of_pos t (by decide))
 have lsp : (44 :: sp).length ≤ 2 := by rcases hsp with rfl | rfl <;> decide
 refine ⟨by decide, _, hidx, ?_⟩
 rw [la2j]
 refine zBa (pre := L1) (laB (xs.map .int) (S.map setD) t []) _ S setD (fun e => .str (tx e.1)) zRy ⟨trivial, trivial, trivial, trivial⟩ (by lia) (fun e led K D _ h => ?_) ?_
 ·show zAN cnH (zAm lcH) (.dat (.tuple _)) ⟨[], led⟩ _
  rw [la2e]; exact ⟨_, zBB (i := 0) rfl (by show 3 ≤ 1000000; decide), h _⟩
 have hjh := zCy (44 :: sp) 200 _ hraw
 have hbh : (S.map (·.1)).length * (44 :: sp).length ≤ 8 * 2 := Nat.mul_le_mul lraw lsp
 rw [eraw]
 refine zGW 200 hraw (by lia) ?_
 rw [zGO]
 dsimp only
 rw [zTd, la3]
 obtain ⟨c0, s1, w0, w1, ls, hidl⟩ := zTV (Int.fmod_nonneg_of_pos (t.fdiv 2) (show (0 : Int) < 4 by decide)) (Int.fmod_lt_of_pos (t.fdiv 2) (by decide))
 refine ⟨⟨by decide, by decide⟩, by decide, _, hidl, ?_⟩
 rw [la3j]
 refine zBa (pre := L2) (laB (xs.map .int) (S.map setD) t [("header", .str (tx (zAU (44 :: sp) (S.map (·.1)))))]) _ S setD (fun e => .str (tx e.1)) zJE ⟨trivial, trivial, trivial, trivial, trivial⟩ (by lia) (fun e led K D _ h => ?_) ?_
 ·show zAN cnN (zAm lcN) (.dat (.tuple _)) ⟨[], led⟩ _
  rw [la3e]; exact ⟨_, zBB (i := 0) rfl (by show 3 ≤ 1000000; decide), h _⟩
 have hjl := zCy (c0 :: s1) 200 _ hraw
 have hbl : (S.map (·.1)).length * (c0 :: s1).length ≤ 8 * 2 := Nat.mul_le_mul lraw (by rw [List.length_cons]; lia)
 rw [eraw]
 refine zGW 200 hraw (by lia) ?_
 rw [zGO]
 dsimp only
 rw [zTc, la4]
 refine zBa (pre := L2) (laH (xs.map .int) (S.map setD) t (tx (zAU (44 :: sp) (S.map (·.1)))) (tx (zAU (c0 :: s1) (S.map (·.1)))) []) _ S setD (fun e => .list (e.2.1.map fun t => .str (tx t))) zJE ⟨trivial, trivial, trivial, trivial, trivial, trivial⟩ (by lia) (fun e led K D _ h => ?_) ?_
 ·show zAN cn4 (zAm lc4) (.dat (.tuple _)) ⟨[], led⟩ _
  rw [la4e]; exact ⟨_, zBB (i := 1) rfl (by show 3 ≤ 1000000; decide), h _⟩
 dsimp only
 rw [zSI, la5]
 refine zBa (pre := L2) (laH (xs.map .int) (S.map setD) t (tx (zAU (44 :: sp) (S.map (·.1)))) (tx (zAU (c0 :: s1) (S.map (·.1)))) [("in_header", .dat (.list (S.map fun e => .list (e.2.1.map fun t => .str (tx t)))))]) _ S setD (fun e => .list (e.2.2.map fun t => .str (tx t))) zJE ⟨trivial, trivial, trivial, trivial, trivial, trivial, trivial⟩ (by lia) (fun e led K D _ h => ?_) ?_
 ·show zAN cn5 (zAm lc5) (.dat (.tuple _)) ⟨[], led⟩ _
  rw [la5e]; exact ⟨_, zBB (i := 2) rfl (by show 3 ≤ 1000000; decide), h _⟩
 dsimp only
 rw [zSH]
 have p1 : S.map (fun e => PyData.list (e.2.1.map fun t => .str (tx t))) = zAW ((S.map fun e => e.2.1).map (List.map tx)) := by
  unfold zAW
  rw [List.map_map, List.map_map]
  exact List.map_congr_left fun e _ => by show PyData.list _ = PyData.list ((e.2.1.map tx).map .str); rw [List.map_map]; rfl
 have p2 : S.map (fun e => PyData.list (e.2.2.map fun t => .str (tx t))) = zAW ((S.map fun e => e.2.2).map (List.map tx)) := by
  unfold zAW
  rw [List.map_map, List.map_map]
  exact List.map_congr_left fun e _ => by show PyData.list _ = PyData.list ((e.2.2.map tx).map .str); rw [List.map_map]; rfl
 rw [p1, p2]
 refine zSU P S hS lS ?_ ?_ (by lia) hk
 ·have := zEl hsp (S.map fun e => (e.1, zAU [61] e.2.1)) (fun y hy => ?_) fun y hy => ?_
  ·rw [List.map_map, List.map_map] at this
   exact this
  ·obtain ⟨e, he, rfl⟩ := List.mem_map.mp hy
   exact (hS e he).pc.1
  ·obtain ⟨e, he, rfl⟩ := List.mem_map.mp hy
   exact (hS e he).tight
 ·have := zEc c0 s1 w0 w1 (S.map fun e => (e.1, zAU [61] e.2.2)) [] [] 1 rfl (fun y hy => ?_) (by
   rw [List.map_map, List.nil_append, List.nil_append, sizeLine_eq]
   show (zAU (c0 :: s1) (S.map (·.1))).length ≤ _
   lia) (.inr rfl)
  ·rw [List.map_map, List.map_map] at this
   exact this
  ·obtain ⟨e, he, rfl⟩ := List.mem_map.mp hy
   obtain ⟨c, r, e1, hc⟩ := (hS e he).head
   have hp := (hS e he).pc.2
   show GoW e.1 _
   rw [e1] at hp ⊢
   exact zSf hc hp (hS e he).ne
set_option maxHeartbeats 200000
noncomputable def zHx : List Obj → BT → Nat → Option BT
 | [], t, _ => some t
 | o :: r, t, n => match ((t.ins n o).get n).isSome with
  | true => zHx r (t.ins n o) (n + 1)
  | false => none
theorem zFA (life : Life) : ∀ (l : List Obj) (t T : BT) (n : Nat) (pre : List Obj), zHx l t n = some T → absHeap t n life = ⟨pre.toArray, life⟩ →
  absHeap T (n + l.length) life = ⟨(pre ++ l).toArray, life⟩
 | [], t, T, n, pre, h, e => by
  simp only [zHx, Option.some.injEq] at h
  subst h
  simpa using e
 | o :: r, t, T, n, pre, h, e => by
  unfold zHx at h
  cases q : ((t.ins n o).get n).isSome with
  | false => rw [q] at h; cases h
  | true =>
   rw [q] at h
   have e' : absHeap (t.ins n o) (n + 1) life = ⟨(pre ++ [o]).toArray, life⟩ := by
    rw [absHeap_ins q, e]
    show Heap.mk _ _ = Heap.mk _ _
    simp
   have z := zFA life r _ T (n + 1) (pre ++ [o]) h e'
   rw [List.length_cons, show n + (r.length + 1) = n + 1 + r.length by lia, z]
   simp
noncomputable def zGA (ok : Thread → Bool) (st : SharedT → Thread → Option (SharedT × Thread)) : Nat → SharedT → Thread → Option SharedT
 | 0, _, _ => none
 | n + 1, s, t => match through t with
  | true => some s
  | false => match ok t with
   | false => none
   | true => match st s t with
    | some (s', t') => zGA ok st n s' t'
    | none => none
theorem zFQ {p : Program} {w : World} {n₀ : Nat} {ann : Option Value} : ∀ {n : Nat} {s s' : SharedT} {t : Thread}, zGA (stepOk n₀ ann) (stepT (denote treeTable) p w) n s t = some s' → topRun treeTable p w n₀ ann n s.abs t = some s'.abs
 | 0, _, _, _, h => by cases h
 | n + 1, s, s', t, h => by
  unfold zGA at h
  unfold topRun
  cases he : through t with
  | true => rw [he] at h; cases h; rfl
  | false =>
   rw [he] at h
   cases hk : stepOk n₀ ann t with
   | false => rw [hk] at h; cases h
   | true =>
    rw [hk] at h
    cases hs : stepT (denote treeTable) p w s t with
    | none => rw [hs] at h; cases h
    | some r => obtain ⟨s₂, t₂⟩ := r; rw [hs] at h; rw [stepT_spec hs]; exact zFQ h
noncomputable def zPS (p : Program) : SharedT := ⟨.nil, 0, {}, #[], {}, 1, (start (opening p)).1.os⟩
theorem zJt (p : Program) : (zPS p).abs = (start (opening p)).1 := rfl
noncomputable def topW (ok : Nat → Option Value → Thread → Bool) (st : SharedT → Thread → Option (SharedT × Thread)) (p : Program) (m : Nat) (s0 : Shared) : Option SharedT :=
 match zHx s0.heap.objs.toList .nil 0 with
 | none => none
 | some T => zGA (ok s0.heap.objs.size (s0.heap.nsMap mainGlobals "__annotations__")) st m ⟨T, s0.heap.objs.size, s0.heap.life, s0.gens, s0.drawn, s0.toks, s0.os⟩ (topStub p)
noncomputable def zJe (ig : Nat → SharedT → Thread → Option (SharedT × Thread)) (t0 : Thread) (fm : Shared → Option Shared) (ok : Nat → Option Value → Thread → Bool) (st : SharedT → Thread → Option (SharedT × Thread)) (p : Program) (n m : Nat) : Option (Shared × SharedT) :=
 match ig n (zPS p) t0 with
 | none => none
 | some (S1, t1) => match t1.atExitBegin with
  | some [] => match fm S1.abs with
   | none => none
   | some s0 => match topW ok st p m s0 with
    | none => none
    | some S => some (s0, S)
  | _ => none
theorem zIt {p : Program} {w : World} {n m N : Nat} {s0 : Shared} {S : SharedT} (h : zJe (impGoT treeTable (opening p) w) (start (opening p)).2 (fenceModules? p) stepOk (stepT (denote treeTable) p w) p n m = some (s0, S)) (hn : n + 1 ≤ N) (hm : m ≤ N) :
  fencedOpening treeTable p w N = some s0 ∧ topRun treeTable p w s0.heap.objs.size (s0.heap.nsMap mainGlobals "__annotations__") N s0 (topStub p) = some S.abs := by
 unfold zJe at h
 split at h
 ·cases h
 ·rename_i S1 t1 h1
  split at h
  ·rename_i he
   split at h
   ·cases h
   ·rename_i s1 hf
    split at h
    ·cases h
    ·rename_i S2 ht
     cases h
     constructor
     ·have i1 := impGo_of h1
      rw [zJt] at i1
      have e1 : importEnds treeTable (opening p) w 1 S1.abs t1 = some S1.abs := by
       unfold importEnds; rw [he]
      have i2 := imp_go i1 e1
      have i3 := importEnds_mono (N - (n + 1)) _ _ _ _ i2
      rw [show n + 1 + (N - (n + 1)) = N by omega] at i3
      unfold fencedOpening
      rw [i3]
      exact hf
     ·unfold topW at ht
      split at ht
      ·cases ht
      ·rename_i T hT
       have e := zFA s0.heap.life _ _ _ _ [] hT (by rfl)
       have r := zFQ ht
       have ee : (SharedT.abs ⟨T, s0.heap.objs.size, s0.heap.life, s0.gens, s0.drawn, s0.toks, s0.os⟩) = s0 := by
        unfold SharedT.abs
        have e' : absHeap T s0.heap.objs.size s0.heap.life = s0.heap := by
         have : 0 + s0.heap.objs.toList.length = s0.heap.objs.size := by simp
         rw [this] at e
         rw [e]
         simp
        rw [e']
       rw [ee] at r
       have r' := topRun_mono (N - m) _ _ _ _ r
       rw [show m + (N - m) = N by omega] at r'
       exact r'
  ·cases h
noncomputable def getT (S : SharedT) (a : Nat) : Option Obj := match Nat.blt a S.n with
 | true => (Heap.mk #[(S.tree.get a).getD default] {}).get? 0
 | false => none
theorem zRV (S : SharedT) (a : Nat) : getT S a = S.abs.heap.get? a := by
 have q : S.abs.heap.objs[a]? = _ := absHeap_at S.tree S.n S.life a
 unfold getT Heap.get?
 rw [q]
 cases e : Nat.blt a S.n with
 | true => rw [if_pos (show a < S.n from Nat.le_of_ble_eq_true e)]; rfl
 | false => rw [if_neg fun g : a < S.n => Bool.noConfusion (e.symm.trans (Nat.ble_eq_true_of_le g))]
theorem zOR {p q : Program} {loose : List Str} {Xt : Shared → Bool} {α : Type} {Yf : Shared → α} {Yt : SharedT → α} {Ya : World → α} {N n m : Nat} (hY : ∀ S, Yt S = Yf S.abs) (hn : n + 1 ≤ N) (hm : m ≤ N)
  (h : ∀ w : World, (zJe (impGoT treeTable (opening p) w) (start (opening p)).2 (fenceModules? p) stepOk (stepT (denote treeTable) p w) p n m).map (fun x => (x.1.heap.isNs mainGlobals && x.1.gens.size == 0,
    staticsOk (importedModules p.main.body) x.1.heap x.2.abs.heap && namesBound p x.2.abs.heap && gensDone x.2.abs && laidKept x.1.heap x.2.abs.heap,
    openSeen q loose (importedModules p.main.body) Xt true x.2.abs, Yt x.2)) = some (true, true, openGood q loose, Ya w)) : LeftO p q loose Xt Yf Ya N := fun w => by
 obtain ⟨⟨s0, S⟩, e1, e2⟩ := Option.map_eq_some_iff.mp (h w)
 obtain ⟨r1, r2⟩ := zIt e1 hn hm
 simp only [Prod.mk.injEq] at e2
 obtain ⟨a, b, c, d⟩ := e2
 unfold openEnds
 rw [r1]
 have t : topFrom treeTable p w N s0 = some S.abs := by
  unfold topFrom
  rw [a, r2]
  show (match staticsOk (importedModules p.main.body) s0.heap S.abs.heap && namesBound p S.abs.heap && gensDone S.abs && laidKept s0.heap S.abs.heap with | true => _ | false => _) = _
  rw [b]
 show (topFrom treeTable p w N s0).map _ = _
 rw [t]
 exact congrArg some (Prod.ext c ((hY S).symm.trans d))
noncomputable def vw : Program := { Challenge.pw_mq0411_02 with main := { Challenge.pw_mq0411_02.main with body := Challenge.pw_mq0411_02.main.body.drop 37 } }
noncomputable def loose : List Str := ["_sre", "deque", "_wall", "parse_keqv_list", "parse_http_list", "_twin_re_1", "_whence", "_index", "UnsupportedOperation", "IOBase", "BufferedIOBase", "TextIOBase", "BytesIO", "StringIO", "_kind", "_fspath", "_check_arg_types", "isabs", "join", "join_path", "dirname", "shlex", "split", "join_shlex", "_find_unsafe", "quote", "_law_marked", "_law_setting", "_law_due", "_law_told", "_law_agrees"]
noncomputable def ka : List Nat := [3, 4, 50, 51, 55, 56, 60, 61, 74, 75, 101, 102, 104, 105, 106, 131, 132, 362, 372, 378, 379, 385, 386, 392, 393, 548, 554, 555, 577, 578, 584, 585, 608, 609, 661, 667, 668, 674, 675, 676, 704, 705, 711, 712, 733, 734, 740, 741, 743, 744, 749, 755, 756, 762, 763, 764, 770, 771, 775, 776, 780, 781, 785, 786, 792, 793, 797, 798, 802, 803]
noncomputable def zLx (x : Str) (o : Option Obj) : Bool := match o with
 | some o => match lookIn x o with
  | some v => v.isNone
  | none => false
 | none => false
noncomputable def zOH (o : Option Obj) : Bool := match o with
 | none => false
 | some o => match o.cls with
  | .none => match o.dict with
   | none => match o.data with
    | .fields ps => match ps.toList with
     | [] => o.slots.toList.isEmpty
     | _ :: _ => false
    | _ => false
   | some _ => false
  | _ => false
noncomputable def seeK (s : Shared) : List (Option Obj) × Bool := (ka.map fun a => s.heap.get? a, zLx "thirdparty.any" (s.heap.get? cStatics) && (zOH (s.heap.get? 758) && (s.heap.get? sysModules).isSome))
noncomputable def seeT (s : SharedT) : List (Option Obj) × Bool := (ka.map fun a => getT s a, zLx "thirdparty.any" (getT s cStatics) && (zOH (getT s 758) && (getT s sysModules).isSome))
theorem zQb (S : SharedT) : seeT S = seeK S.abs := by
 unfold seeT seeK
 rw [funext (zRV S)]
noncomputable def zOk (w : World) : List (Option Obj) × Bool := ([some (o3 w.params), some (o4 w.params), some (o765 w.params), some (o766 w.params), some (o770 w.params), some (o771 w.params), some (o48 w.params), some (o49 w.params), some (o62 w.params), some (o63 w.params), some (o89 w.params), some (o90 w.params), some (o92 w.params), some (o93 w.params), some (o94 w.params), some (o119 w.params), some (o120 w.params), some (o350 w.params), some (o360 w.params), some (o366 w.params), some (o367 w.params), some (o373 w.params), some (o374 w.params), some (o380 w.params), some (o381 w.params), some (o536 w.params), some (o542 w.params), some (o543 w.params), some (o565 w.params), some (o566 w.params), some (o572 w.params), some (o573 w.params), some (o596 w.params), some (o597 w.params), some (o649 w.params), some (o655 w.params), some (o656 w.params), some (o662 w.params), some (o663 w.params), some (o664 w.params), some (o692 w.params), some (o693 w.params), some (o699 w.params), some (o700 w.params), some (o721 w.params), some (o722 w.params), some (o728 w.params), some (o729 w.params), some (o731 w.params), some (o732 w.params), some (o737 w.params), some (o743 w.params), some (o744 w.params), some (o750 w.params), some (o751 w.params), some (o752 w.params), some (o758 w.params), some (o759 w.params), some (o789 w.params), some (o790 w.params), some (o780 w.params), some (o781 w.params), some (o785 w.params), some (o786 w.params), some (o792 w.params), some (o793 w.params), some (o797 w.params), some (o798 w.params), some (o802 w.params), some (o803 w.params)], true)
theorem run1 : ∀ w : World, (zJe (impGoT treeTable (opening Challenge.pw_mq0411_02) w) (start (opening Challenge.pw_mq0411_02)).2 (fenceModules? Challenge.pw_mq0411_02) stepOk (stepT (denote treeTable) Challenge.pw_mq0411_02 w) Challenge.pw_mq0411_02 1085 5300).map (fun x => (x.1.heap.isNs mainGlobals && x.1.gens.size == 0,
    staticsOk (importedModules Challenge.pw_mq0411_02.main.body) x.1.heap x.2.abs.heap && namesBound Challenge.pw_mq0411_02 x.2.abs.heap && gensDone x.2.abs && laidKept x.1.heap x.2.abs.heap,
    openSeen vw loose (importedModules Challenge.pw_mq0411_02.main.body) (fun _ => true) true x.2.abs, seeT x.2)) = some (true, true, openGood vw loose, zOk w) := by
 rw [PySem.W.Fast.te14789777615569096658, PySem.W.Fast.te14364793385576792824, PySem.W.Fast.te1435165496053646825, PySem.W.Fast.te14289696077712309145, PySem.W.Fast.te6613529449190102663, PySem.W.Fast.te10156331382660048174, PySem.W.Fast.te11892475500146522536, PySem.W.Fast.te4187177175401517315]
 intro w
 kernel_rfl
set_option maxHeartbeats 4000000
noncomputable def lawS : Stmt := stAt 37 Challenge.pw_mq0411_02.main.body
noncomputable def fPos : Stmt → Pos
 | .FunctionDef _ _ _ _ _ _ _ _ _ p => p
 | _ => default
noncomputable def dLaw : DefRec := ⟨"law", zBD lawS, zAG lawS, zAB lawS, fPos lawS⟩
theorem zTi : LeftO Challenge.pw_mq0411_02 vw loose (fun _ => true) seeK zOk 5400 := zOR zQb (n := 1085) (m := 5300) (by lia) (by lia) run1
noncomputable def YK (w : World) (h : Heap) : Prop := (KK w.params).In h ∧ (∃ o, h.get? cStatics = some o ∧ lookIn "thirdparty.any" o = some none) ∧ (h.get? 758 = some { cls := .none, data := .fields #[] }) ∧ ∃ o, h.get? sysModules = some o
theorem zOI {x : Str} {o : Option Obj} (h : zLx x o = true) : ∃ y, o = some y ∧ lookIn x y = some none := by
 cases o with
 | none => exact Bool.noConfusion h
 | some y =>
  unfold zLx at h
  dsimp only at h
  cases q : lookIn x y with
  | none => rw [q] at h; exact Bool.noConfusion h
  | some v =>
   rw [q] at h
   cases v with
   | none => exact ⟨y, rfl, q⟩
   | some _ => exact Bool.noConfusion h
theorem zOG {o : Option Obj} (h : zOH o = true) : o = some { cls := .none, data := .fields #[] } := by
 cases o with
 | none => exact Bool.noConfusion h
 | some o =>
  obtain ⟨c, d, e, ⟨sl⟩⟩ := o
  cases c <;> first | exact Bool.noConfusion h | skip
  cases d <;> first | exact Bool.noConfusion h | skip
  cases e <;> first | exact Bool.noConfusion h | skip
  rename_i vs
  obtain ⟨vs⟩ := vs
  cases vs <;> first | exact Bool.noConfusion h | skip
  cases sl <;> first | exact Bool.noConfusion h | rfl
theorem zQc (w : World) (s : Shared) (h : seeK s = zOk w) : YK w s.heap := by
 have h2 : (zLx "thirdparty.any" (s.heap.get? cStatics) && (zOH (s.heap.get? 758) && (s.heap.get? sysModules).isSome)) = true := congrArg Prod.snd h
 rw [Bool.and_eq_true, Bool.and_eq_true] at h2
 exact ⟨Frag.in_of (as := ka) (by kernel_rfl) (congrArg Prod.fst h), zOI h2.1, zOG h2.2.1, Option.isSome_iff_exists.mp h2.2.2⟩
theorem zTX : Challenge.rw_mq0411_02.wellSaid = true := by
 rw [PySem.W.Fast.te9446332074065402090]
 delta PySem.W.Fast.tw9446332074065402090
 refine look_both (look_both ?_ (by decide +kernel)) (by kernel_rfl)
 iterate 16 refine look_both ?_ (by kernel_rfl)
 delta PySem.W.Fast.tw17960256430627541270
 iterate 2 refine look_both ?_ (by kernel_rfl)
 delta PySem.W.Fast.tw2436336058641802641
 iterate 13 refine look_both ?_ (by kernel_rfl)
 delta PySem.W.Fast.tw12908688711261696721
 refine look_both (look_both (look_both (look_both (look_both (by decide +kernel) (by decide +kernel)) (by decide +kernel)) (by kernel_rfl)) (by decide +kernel)) (by decide +kernel)
theorem head1 (call : WalkO vw loose (fun _ _ => True) YK Challenge.rw_mq0411_02.row.toRowW dLaw [] fun f vs => PySem.call f vs) : Challenge.rw_mq0411_02.Holds := by
 refine holds_law zTX fun said => ?_
 refine holds_open (q := vw) (loose := loose) (Xt := fun _ => true) (XP := fun _ _ => True) (Yf := seeK) (Ya := zOk) (YP := YK) (N := 5400) (d := dLaw) (kwd := []) zTi zQc ?_ (fun _ _ => trivial) (fun _ _ _ _ _ => trivial) ?_ ?_ ?_ ?_ ?_ said ?_ ?_ ?_ call
 ·intro w h h' y k
  obtain ⟨y1, ⟨o, a, b⟩, a2, o3, a3⟩ := y
  exact ⟨fun a o e => k a o (y1 a o e), ⟨o, k _ _ a, b⟩, k _ _ a2, o3, k _ _ a3⟩
 ·kernel_rfl
 ·kernel_rfl
 ·kernel_rfl
 ·intro s _; exact recFacts_nil (by kernel_rfl)
 ·rfl
 ·kernel_rfl
 ·exact ⟨rfl, rfl, rfl, rfl, rfl, by decide +kernel⟩
 ·exact ⟨[.list []], by decide +kernel, by decide +kernel⟩
set_option maxHeartbeats 1000000
theorem zOA {B : Heap} {fz : List (Addr × Obj)} : ∀ {vs : List Value} {xs : List Int}, IntsAre vs xs → RdL B fz vs (xs.map .int) := by
 intro vs xs r
 induction r with
 | nil => exact .nil
 | cons x t _ ih => exact .cons (.int _ _) ih
theorem zMs (xs : List Int) (h : xs.length ≤ 1000) : Fits (.list (xs.map .int)) := .list (by rw [List.length_map, sizeLine_eq]; lia) fun d hd => by
 obtain ⟨x, _, rfl⟩ := List.mem_map.mp hd
 exact .int x
theorem zMo {h : Heap} {P : Params} {mg mb : Str → Option Value} {p : Program} {loose : List Str} {mean : ExcName → Option Value} (T : Top p loose mean mg mb h) (hs : ∃ o, h.get? cStatics = some o ∧ lookIn "thirdparty.any" o = some none) (hm : ∃ o, h.get? sysModules = some o) : GlobOk (hideAll h [758]) := by
 have ne : ∀ {b : Addr}, b ≠ 758 → b ∉ [758] := fun hb q => hb (List.mem_singleton.mp q)
 refine ⟨?_, ⟨mg, mb, T.g.at' fun o q => hideAll_get _ q (ne (by decide)), T.b.at' fun o q => hideAll_get _ q (ne (by decide)), T.builtins⟩, ?_, ?_⟩
 ·obtain ⟨mc, h1, h2⟩ := T.nolimit
  exact ⟨mc, h1.at' fun o q => hideAll_get _ q (ne (by decide)), h2⟩
 ·obtain ⟨o, a, b⟩ := hs
  exact ⟨o, hideAll_get _ a (ne (by decide)), b⟩
 ·obtain ⟨o, a⟩ := hm
  exact ⟨o, hideAll_get _ a (ne (by decide))⟩
theorem zRH {P : Params} {h : Heap} (X : (KK P).In h) : (KK P).In (hideAll h [758]) := fun a o e => by
 refine hideAll_get _ (X a o e) fun q => ?_
 rw [List.mem_singleton.mp q] at e
 have : (KK P).lookup 758 = none := by kernel_rfl
 rw [this] at e; cases e
structure LawEnd (s s' : Shared) : Prop where
 old : OldK s.heap s'.heap
 os : s'.os = s.os
 gens : AllBare s'.gens
theorem zRE {w : World} {s : Shared} {a : Addr} {vs : List Value} {xs : List Int} {mg mb : Str → Option Value} {p : Program} {loose : List Str} {mean : ExcName → Option Value} {E : Value → Shared → Prop} {Q : Value → Shared → Prop}
  (T : Top p loose mean mg mb s.heap) (Y : YK w s.heap) (hg : s.gens = #[]) (hL : s.heap.IsList a vs.toArray) (hI : IntsAre vs xs) (hlen : xs.length ≤ 1000) (hQ : ∀ s', LawEnd s s' → Q (.bool true) s') : wpAny (model prog w) callerA (call (.ref 803) [.ref a]) Q E s := by
 obtain ⟨X, hst, h7, hsm⟩ := Y
 refine wpAny_call ?_
 have ha : a ≠ 758 := fun e => by
  obtain ⟨o, q, _, n, q2⟩ := hL
  rw [e, h7] at q
  cases q; cases q2
 have hne : ∀ {b : Addr}, b ≠ 758 → b ∉ [758] := fun hb q => hb (List.mem_singleton.mp q)
 refine zHk (C := cfLa w.params) (e := f803) (svs := [.dat (.list (xs.map .int))]) false [(758, tabO #[])] ⟨[(758, 0)], []⟩ [.tab 758] (zSg _) (zAP (by kernel_rfl)) (fun p hp => by rw [List.mem_singleton.mp hp]; exact h7) (by simp) rfl
  (LedR.cons (One.tab (P := w.params) (a := 758) (d := 0) (ps := #[]) trivial) LedR.nil) (zRH X) (zMo (P := w.params) T hst hsm) (fun _ => ⟨rfl, rfl⟩) rfl (by decide) (.cons ?_ .nil) rfl ?_
 ·refine ⟨⟨a, rfl⟩, zMs xs hlen, ?_⟩
  obtain ⟨o, q1, q2, n, q3⟩ := hL
  exact .list (.inl (hideAll_get _ q1 (hne ha))) q2 q3 (zOA hI)
 ·intro F' h₁ t ok eA eS eh eB eq R
  refine wpAny_mono (zBY (zTz w) 300 F' _ (.sts f803.body) _ _ ⟨[(758, 0)], []⟩ _ (fun c s' => match c with
   | .fl (.ret v) => Q v s'
   | _ => False) ok (by rw [eA]; show callerA.depth + 1 + 300 < _; decide) (by rw [eA]; show callerA.units + 3 + 8 * 300 < _; decide) (by rw [eS]; exact zOU w.params xs (fun r st' => r = .ret (.bool true) ∧ ∃ l, st'.led = .tab 758 :: l) fun loc l => ⟨rfl, l, rfl⟩) R ?_) (fun f s' q => ?_) fun _ _ q => q
  rotate_left
  ·cases f with
   | ret v => exact q
   | _ => exact q.elim
  rintro r st' more c s' ⟨rfl, l, hl⟩ R' nx dr
  cases c with
  | fl fl => cases fl with
   | ret v =>
    cases dr
    refine hQ s' ⟨?_, nx.os, fun y hy => ?_⟩
    ·obtain ⟨m, news, lw, RX⟩ := R'
     have keep : ∀ b o, b ≠ 758 → s.heap.get? b = some o → s'.heap.get? b = some o := fun b o hb e => RX.fr.keep b o (by rw [eh]; exact hideAll_get _ e (hne hb))
     have htab : ∃ ps, s'.heap.get? 758 = some (tabO ps) := by
      have hi : st'.led[0]? = some (.tab 758) := by rw [hl]; rfl
      obtain ⟨pre, ps, post, a', d', h1, h2, h3, h4⟩ := RX.led.at hi
      clear h4
      obtain ⟨rfl, ps, ht, rfl⟩ := h3.inv
      ·exact ⟨ps, (RX.nw (758, tabO ps) (by rw [h1]; simp)).1⟩
     obtain ⟨ps, htab⟩ := htab
     refine ⟨fun b o e => ?_, fun b o e => ?_⟩
     ·by_cases hb : b = 758
      ·subst hb
       rw [h7] at e; cases e
       exact .inr (.inl ⟨(zFR X h7).isCodeTable, rfl, #[], ps, rfl, by rw [htab]; simp⟩)
      ·exact .inl (keep b o hb e)
     ·by_cases hb : b = 758
      ·subst hb; exact ⟨_, htab⟩
      ·exact ⟨o, keep b o hb e⟩
    ·obtain ⟨i, hi, e⟩ := Array.mem_iff_getElem.mp hy
     have hy' : s'.gens[i]? = some y := by rw [Array.getElem?_eq_getElem hi, e]
     rcases nx.done i y hy' with q | q
     ·have q' : s.gens[i]? = some y := q
      rw [hg] at q'; simp at q'
     ·exact q
   | _ => exact dr.elim
  | _ => exact dr.elim
theorem zOT (l : OpenLaw) (args ds : List WData) : l.row.toRowW.claim.post args (.bool true) ds = true := by
 show (WShape.has l.row.records (.bool true) .bool && WTm.holds l.row.records (.eq .res (.lit (.bool true))) { args := args, res := some (.bool true), after := ds }) = true
 have h1 : WShape.has l.row.records (.bool true) .bool = true := by kernel_rfl
 have h2 : PySem.W.same (.bool true) (.bool true) = true := by first | decide | rfl | simp [PySem.W.same] | decide +kernel
 rw [h1]
 simp [WTm.holds, WTm.value, h2]
theorem call1 : WalkO vw loose (fun _ _ => True) YK Challenge.rw_mq0411_02.row.toRowW dLaw [] fun f vs => PySem.call f vs := by
 intro w s₀ s₁ mg mb G Y fa o pm cd doc dV kV ho hd hcd hD hmg hg args vals as hpre hlay hrd hwl hlo
 have T := G.T
 have hfa : mg "law" = some (.ref 803) := mg_of Y.1 T.g (by kernel_rfl)
 have e803 : fa = 803 := by
  have h2 : mg "law" = some (.ref fa) := hmg
  rw [hfa] at h2; cases h2; rfl
 subst e803
 clear G hD ho hd hcd hmg hfa
 wrow_args hpre hlay hrd hwl hlo
 rename_i xs _ _ _ _ _ _ a vs _ hL _ _ _ hI _ hc _
 rw [← show prog = Challenge.rw_mq0411_02.row.prog from by unfold prog; rfl]
 refine zRE T Y hg hL hI (by lia) fun s' q => ?_
 refine ⟨.inl ⟨.bool true, .bool true, [], rfl, fun cls => rfl, ?_, ?_, fun _ => ⟨List.nodup_nil, fun a h => nomatch h⟩⟩, q.old, q.os, q.gens⟩
 ·exact .bool true
 ·exact zOT _ _ _
end Mine
theorem PySem.Challenge.cw_mq0411_02_holds : PySem.Challenge.rw_mq0411_02.Holds :=
  Mine.head1 Mine.call1
