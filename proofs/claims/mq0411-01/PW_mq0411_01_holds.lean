import PyProof.Rows.All
import Wide.All
import OpenK.AllK
import Lean
import PySem.Challenge.RW_mq0411_01
open PySem PySem.W PySem.Calls PyProof.Rows
set_option Elab.async false
set_option genSizeOf false
set_option genInjectivity false
set_option bootstrap.genMatcherCode false
set_option maxRecDepth 100000
set_option linter.unusedVariables false
namespace Mine
set_option maxHeartbeats 200000
set_option backward.match.sparseCases false
@[irreducible] noncomputable def prog : Program := Challenge.pw_mq0411_01
inductive SV where
 | none
 | bool (b : Bool)
 | int (i : Int)
 | str (s : Str)
 | val (v : Value)
 | obj (i : Nat)
 | dat (d : PyData)
 | sg (c : Nat) (es fs : List (Str × Bool))
inductive SO where
 | inst (C : Addr) (fs : List (Str × SV))
 | raw (o : Obj)
 | list (xs : List SV)
 | tup (xs : List SV)
 | cell (v : Option SV)
 | dic (fs : List (Str × SV))
 | it (b : Bool) (src : SV) (j : Nat)
 | itr (n j : Nat)
 | rng (n : Nat)
 | gone
 | tab (p : Addr)
structure St where
 loc : List (Str × SV)
 led : List SO
noncomputable abbrev zJs (o : Option SO) (f : Addr → List (Str × SV) → Prop) : Prop := match o with
 | none => False
 | some x => match x with
  | .inst c fs => f c fs
  | _ => False
noncomputable abbrev zHu (o : Option SO) (f : List SV → Prop) : Prop := match o with
 | none => False
 | some x => match x with
  | .list xs => f xs
  | _ => False
noncomputable abbrev zTD (o : Option SO) (f : List SV → Prop) : Prop := match o with
 | none => False
 | some x => match x with
  | .tup xs => f xs
  | _ => False
noncomputable abbrev zPD (o : Option SO) (f : Option SV → Prop) : Prop := match o with
 | none => False
 | some x => match x with
  | .cell v => f v
  | _ => False
noncomputable abbrev zTF (o : Option SO) (f : Obj → Prop) : Prop := match o with
 | none => False
 | some x => match x with
  | .raw v => f v
  | _ => False
noncomputable abbrev zBW {α : Type} (o : Option α) (f : α → Prop) : Prop := match o with
 | none => False
 | some x => f x
noncomputable abbrev onTr (b : Bool) (p : Prop) : Prop := match b with
 | true => p
 | false => False
theorem zCx {o : Option SO} {f : Addr → List (Str × SV) → Prop} (h : zJs o f) : ∃ c fs, o = some (.inst c fs) ∧ f c fs := by
 cases o with
 | none => exact h.elim
 | some x => cases x <;> first | exact ⟨_, _, rfl, h⟩ | exact h.elim
theorem zCl {o : Option SO} {f : List SV → Prop} (h : zHu o f) : ∃ c, o = some (.list c) ∧ f c := by
 cases o with
 | none => exact h.elim
 | some x => cases x <;> first | exact ⟨_, rfl, h⟩ | exact h.elim
theorem zLD {o : Option SO} {f : List SV → Prop} (h : zTD o f) : ∃ c, o = some (.tup c) ∧ f c := by
 cases o with
 | none => exact h.elim
 | some x => cases x <;> first | exact ⟨_, rfl, h⟩ | exact h.elim
theorem zCm {o : Option SO} {f : Option SV → Prop} (h : zPD o f) : ∃ c, o = some (.cell c) ∧ f c := by
 cases o with
 | none => exact h.elim
 | some x => cases x <;> first | exact ⟨_, rfl, h⟩ | exact h.elim
theorem zLF {o : Option SO} {f : Obj → Prop} (h : zTF o f) : ∃ c, o = some (.raw c) ∧ f c := by
 cases o with
 | none => exact h.elim
 | some x => cases x <;> first | exact ⟨_, rfl, h⟩ | exact h.elim
theorem zAM {α : Type} {o : Option α} {f : α → Prop} (h : zBW o f) : ∃ c, o = some c ∧ f c := by
 cases o with
 | none => exact h.elim
 | some x => exact ⟨_, rfl, h⟩
theorem zAz {b : Bool} {p : Prop} (h : onTr b p) : b = true ∧ p := by
 cases b with
 | false => exact h.elim
 | true => exact ⟨rfl, h⟩
inductive SR where
 | v (x : SV)
 | b (x : Bool)
 | vs (l : List SV)
 | next
 | brk
 | cont
 | ret (x : SV)
noncomputable abbrev Kt := SR → St → Prop
noncomputable def lk {α : Type} (x : Str) : List (Str × α) → Option α
 | [] => none
 | (y, a) :: r => match Fast.sEq x y with
  | true => some a
  | false => lk x r
noncomputable def put {α : Type} (x : Str) (v : α) : List (Str × α) → List (Str × α)
 | [] => [(x, v)]
 | (y, a) :: r => match Fast.sEq x y with
  | true => (y, v) :: r
  | false => (y, a) :: put x v r
noncomputable def toSV : Value → SV
 | .none => .none
 | .bool b => .bool b
 | .int i _ => .int i
 | .str s _ => .str s
 | v => .val v
noncomputable def svOf : PyData → SV
 | .none => .none
 | .bool b => .bool b
 | .int i => .int i
 | .str s => .str s
 | d => .dat d
theorem zAQ {a b : Str} (h : Fast.sEq a b = true) : a = b := Fast.sEq_iff.mp h
theorem zAo {a b : Str} (h : Fast.sEq a b = false) : a ≠ b := fun e => by rw [Fast.sEq_iff.mpr e] at h; cases h
theorem zOq (a : Str) : Fast.sEq a a = true := Fast.sEq_iff.mpr rfl
structure Wd where
 ads : List (Addr × Addr)
 fz : List (Addr × Obj)
noncomputable def wa (a b : Wd) : Wd := ⟨a.ads ++ b.ads, a.fz ++ b.fz⟩
noncomputable def Wd.nil : Wd := ⟨[], []⟩
theorem Wd.append_nil (a : Wd) : (wa a Wd.nil) = a := by
 cases a; show Wd.mk _ _ = _; simp [Wd.nil]
theorem Wd.append_assoc (a b c : Wd) : (wa (wa a b) c) = (wa a (wa b c)) := by
 show Wd.mk (a.ads ++ b.ads ++ c.ads) (a.fz ++ b.fz ++ c.fz) = Wd.mk (a.ads ++ (b.ads ++ c.ads)) (a.fz ++ (b.fz ++ c.fz)); rw [List.append_assoc, List.append_assoc]
noncomputable def Wd.one (a d : Addr) : Wd := ⟨[(a, d)], []⟩
theorem Wd.ads_append (a b : Wd) : (wa a b).ads = a.ads ++ b.ads := rfl
theorem Wd.fz_append (a b : Wd) : (wa a b).fz = a.fz ++ b.fz := rfl
inductive Fits : PyData → Prop
 | none : Fits .none
 | bool (b) : Fits (.bool b)
 | int (i) : Fits (.int i)
 | str {s : Str} : s.length ≤ sizeLine → Fits (.str s)
 | list {xs : List PyData} : xs.length ≤ sizeLine → (∀ x ∈ xs, Fits x) → Fits (.list xs)
 | tuple {xs : List PyData} : xs.length ≤ sizeLine → (∀ x ∈ xs, Fits x) → Fits (.tuple xs)
 | dict {kvs : List (PyData × PyData)} : kvs.length ≤ sizeLine → (∀ x ∈ kvs, Fits x.1) → (∀ x ∈ kvs, Fits x.2) → Fits (.dict kvs)
noncomputable def Got (B : Heap) (fz : List (Addr × Obj)) (a : Addr) (o : Obj) : Prop := B.get? a = some o ∨ (a, o) ∈ fz
mutual
/-- a value reads as data, from objects that never change again -/
inductive Rd (B : Heap) (fz : List (Addr × Obj)) : Value → PyData → Prop
 | none : Rd B fz .none .none
 | bool (b) : Rd B fz (.bool b) (.bool b)
 | int (i t) : Rd B fz (.int i t) (.int i)
 | str (x t) : Rd B fz (.str x t) (.str x)
 | list {a : Addr} {o : Obj} {vs : Array Value} {n : Nat} {xs : List PyData} : Got B fz a o → o.cls = .type "list" → o.data = .seq vs n → RdL B fz vs.toList xs → Rd B fz (.ref a) (.list xs)
 | tuple {a : Addr} {o : Obj} {vs : Array Value} {n : Nat} {xs : List PyData} : Got B fz a o → o.cls = .type "tuple" → o.data = .seq vs n → RdL B fz vs.toList xs → Rd B fz (.ref a) (.tuple xs)
inductive RdL (B : Heap) (fz : List (Addr × Obj)) : List Value → List PyData → Prop
 | nil : RdL B fz [] []
 | cons {v : Value} {d : PyData} {vs : List Value} {ds : List PyData} : Rd B fz v d → RdL B fz vs ds → RdL B fz (v :: vs) (d :: ds)
end
theorem Got.mono {B : Heap} {fz gz : List (Addr × Obj)} (s : ∀ p ∈ fz, p ∈ gz) {a : Addr} {o : Obj} (g : Got B fz a o) : Got B gz a o := g.imp id (s _)
mutual
theorem Rd.mono {B : Heap} {fz gz : List (Addr × Obj)} (s : ∀ p ∈ fz, p ∈ gz) : ∀ {v : Value} {d : PyData}, Rd B fz v d → Rd B gz v d
 | _, _, .none => .none
 | _, _, .bool b => .bool b
 | _, _, .int i t => .int i t
 | _, _, .str x t => .str x t
 | _, _, .list g c e r => .list (g.mono s) c e (r.mono s)
 | _, _, .tuple g c e r => .tuple (g.mono s) c e (r.mono s)
theorem RdL.mono {B : Heap} {fz gz : List (Addr × Obj)} (s : ∀ p ∈ fz, p ∈ gz) : ∀ {vs : List Value} {ds : List PyData}, RdL B fz vs ds → RdL B gz vs ds
 | _, _, .nil => .nil
 | _, _, .cons a b => .cons (a.mono s) (b.mono s)
end
noncomputable def Look (B : Heap) (fz : List (Addr × Obj)) (h : Heap) : Prop := B.StaysIn h ∧ ∀ p ∈ fz, h.get? p.1 = some p.2
noncomputable def sgS (c : Nat) : Str := ⟨#[c]⟩
theorem zCG (c : Nat) : (sgS c).length = 1 := rfl
noncomputable def inB (a b : Str) : Bool := !(Builtin.Str.occurrences b a 0 b.length 1).isEmpty
noncomputable def Den (B : Heap) (ads : Wd) : SV → Value → Prop
 | .none, v => v = .none
 | .bool b, v => v = .bool b
 | .int i, v => ∃ t, v = .int i t
 | .str s, v => (∃ t, v = .str s t) ∧ s.length ≤ sizeLine
 | .val x, v => v = x ∧ handedIn x = true
 | .obj i, v => ∃ p, ads.ads[i]? = some p ∧ v = .ref p.1
 | .dat d, v => (∃ a, v = .ref a) ∧ Fits d ∧ Rd B ads.fz v d
 | .sg c es fs, v => (∃ t, v = .str (sgS c) t) ∧ (∀ p ∈ es, Fast.sEq (sgS c) p.1 = p.2) ∧ (∀ p ∈ fs, inB (sgS c) p.1 = p.2)
mutual
theorem Rd.reads {B : Heap} {fz : List (Addr × Obj)} {h : Heap} (l : Look B fz h) : ∀ {v : Value} {d : PyData}, Rd B fz v d → ∃ as, Reads h v d as
 | _, _, .none => ⟨_, .none⟩
 | _, _, .bool b => ⟨_, .bool b⟩
 | _, _, .int i t => ⟨_, .int i t⟩
 | _, _, .str x t => ⟨_, .str x t⟩
 | _, _, .list g c e r => let ⟨_, q⟩ := r.reads l; ⟨_, .list (g.elim (l.1 _ _) (l.2 _)) c e q⟩
 | _, _, .tuple g c e r => let ⟨_, q⟩ := r.reads l; ⟨_, .tuple (g.elim (l.1 _ _) (l.2 _)) c e q⟩
theorem RdL.reads {B : Heap} {fz : List (Addr × Obj)} {h : Heap} (l : Look B fz h) : ∀ {vs : List Value} {ds : List PyData}, RdL B fz vs ds → ∃ as, ReadsAll h vs ds as
 | _, _, .nil => ⟨_, .nil⟩
 | _, _, .cons a b => let ⟨_, x⟩ := a.reads l; let ⟨_, y⟩ := b.reads l; ⟨_, .cons x y⟩
end
theorem Den.mono {B : Heap} {ads more : Wd} {x : SV} {v : Value} (h : Den B ads x v) : Den B (wa ads more) x v := by
 cases x with
 | obj i =>
  obtain ⟨p, hp, e⟩ := h
  refine ⟨p, ?_, e⟩
  rw [Wd.ads_append, List.getElem?_append_left (List.getElem?_eq_some_iff.mp hp).1]; exact hp
 | dat d =>
  obtain ⟨e, f, r⟩ := h
  exact ⟨e, f, r.mono fun p hp => List.mem_append_left _ hp⟩
 | _ => exact h
theorem Den.handed {B : Heap} {ads : Wd} {x : SV} {v : Value} (h : Den B ads x v) : handedIn v = true := by
 cases x with
 | none => cases h; rfl
 | bool b => cases h; rfl
 | int i => obtain ⟨t, rfl⟩ := h; rfl
 | str s => obtain ⟨⟨t, rfl⟩, _⟩ := h; rfl
 | val y => obtain ⟨rfl, e⟩ := h; exact e
 | obj i => obtain ⟨p, _, rfl⟩ := h; rfl
 | dat d => obtain ⟨⟨a, rfl⟩, _⟩ := h; rfl
 | sg c es fs => obtain ⟨⟨t, rfl⟩, _⟩ := h; rfl
noncomputable def LocR (B : Heap) (ads : Wd) (loc : List (Str × SV)) (m : Str → Option Value) : Prop := ∀ x sv, lk x loc = some sv → ∃ v, m x = some v ∧ Den B ads sv v
theorem LocR.mono {B : Heap} {ads more : Wd} {loc : List (Str × SV)} {m : Str → Option Value} (h : LocR B ads loc m) : LocR B (wa ads more) loc m := fun x sv e => let ⟨v, a, b⟩ := h x sv e; ⟨v, a, b.mono⟩
theorem zQM {α : Type} (x y : Str) (v : α) : ∀ l : List (Str × α), lk y (put x v l) = if y = x then some v else lk y l
 | [] => by
  unfold put lk
  cases h : Fast.sEq y x with
  | true => rw [if_pos (zAQ h)]
  | false => rw [if_neg (zAo h)]; rfl
 | (z, a) :: r => by
  unfold put
  cases h : Fast.sEq x z with
  | true =>
   have e := zAQ h
   subst e
   show lk y ((x, v) :: r) = _
   unfold lk
   cases q : Fast.sEq y x with
   | true => rw [if_pos (zAQ q)]
   | false => rw [if_neg (zAo q)]
  | false =>
   show lk y ((z, a) :: put x v r) = _
   have ih := zQM x y v r
   unfold lk
   cases q : Fast.sEq y z with
   | true =>
    have e := zAQ q
    subst e
    have : y ≠ x := fun e => zAo h e.symm
    rw [if_neg this]
   | false => exact ih
theorem LocR.set {B : Heap} {ads : Wd} {loc : List (Str × SV)} {m : Str → Option Value} (h : LocR B ads loc m) {x : Str} {sv : SV} {v : Value} (d : Den B ads sv v) :
  LocR B ads (put x sv loc) (fun y => if y = x then some v else m y) := fun y sw e => by
 rw [zQM] at e
 by_cases q : y = x
 ·rw [if_pos q] at e; cases e
  exact ⟨v, if_pos q, d⟩
 ·rw [if_neg q] at e
  obtain ⟨v', a, b⟩ := h y sw e
  exact ⟨v', (if_neg q).trans a, b⟩
inductive EntR (P : Params) (B : Heap) (ads : Wd) : List DictEntry → List (Str × SV) → Prop
 | nil : EntR P B ads [] []
 | cons {x : Str} {t : Tok} {v : Value} {sv : SV} {es : List DictEntry} {fs : List (Str × SV)} : Den B ads sv v → EntR P B ads es fs → EntR P B ads (⟨PyData.keyHash P x, .str x t, v⟩ :: es) ((x, sv) :: fs)
theorem EntR.mono {P : Params} {B : Heap} {ads more : Wd} {es : List DictEntry} {fs : List (Str × SV)} (h : EntR P B ads es fs) : EntR P B (wa ads more) es fs := by
 induction h with
 | nil => exact .nil
 | cons d _ ih => exact .cons d.mono ih
theorem isStr_iff {x y : Str} {t : Tok} : (Value.str x t).isStr y = true ↔ y = x := by
 show (x == y) = true ↔ _
 rw [beq_iff_eq]
 exact ⟨fun e => e.symm, fun e => e.symm⟩
theorem EntR.get {P : Params} {B : Heap} {ads : Wd} {x : Str} {sv : SV} : ∀ {es : List DictEntry} {fs : List (Str × SV)}, EntR P B ads es fs → lk x fs = some sv → ∃ v, getL x es = some (some v) ∧ Den B ads sv v
 | _, _, .nil, e => by cases e
 | _, _, .cons (x := y) (t := t) (v := v) (es := es) d r, e => by
  unfold lk at e
  cases q : Fast.sEq x y with
  | true =>
   rw [q] at e; cases e
   refine ⟨v, ?_, d⟩
   unfold getL
   rw [List.find?_cons]
   have : (Value.str y t).isStr x = true := isStr_iff.mpr (zAQ q)
   simp only [this]
  | false =>
   rw [q] at e
   obtain ⟨v', a, b⟩ := r.get e
   refine ⟨v', ?_, b⟩
   unfold getL at a ⊢
   rw [List.find?_cons]
   have : (Value.str y t).isStr x = false := by
    cases z : (Value.str y t).isStr x with
    | false => rfl
    | true => exact absurd (isStr_iff.mp z) (zAo q)
   simp only [this]
   have z : DictEntry.refKey ⟨PyData.keyHash P y, .str y t, v⟩ = false := rfl
   rw [List.any_cons, z, Bool.false_or]
   exact a
theorem EntR.miss {P : Params} {B : Heap} {ads : Wd} {x : Str} : ∀ {es : List DictEntry} {fs : List (Str × SV)}, EntR P B ads es fs → lk x fs = none → getL x es = some none
 | _, _, .nil, _ => rfl
 | _, _, .cons (x := y) (t := t) (v := v) (es := es) d r, e => by
  unfold lk at e
  cases q : Fast.sEq x y with
  | true => rw [q] at e; cases e
  | false =>
   rw [q] at e
   have a := r.miss e
   unfold getL at a ⊢
   rw [List.find?_cons]
   have : (Value.str y t).isStr x = false := by
    cases z : (Value.str y t).isStr x with
    | false => rfl
    | true => exact absurd (isStr_iff.mp z) (zAo q)
   simp only [this]
   have z : DictEntry.refKey ⟨PyData.keyHash P y, .str y t, v⟩ = false := rfl
   rw [List.any_cons, z, Bool.false_or]
   exact a
theorem EntR.set {P : Params} {B : Heap} {ads : Wd} {x : Str} {t : Tok} {sv : SV} {v : Value} (d : Den B ads sv v) : ∀ {es : List DictEntry} {fs : List (Str × SV)}, EntR P B ads es fs →
  EntR P B ads (putL x (PyData.keyHash P x) (.str x t) v es) (put x sv fs)
 | _, _, .nil => .cons d .nil
 | _, _, .cons (x := y) (t := u) (v := w) (es := es) d' r => by
  unfold putL put
  cases q : Fast.sEq x y with
  | true =>
   have : (Value.str y u).isStr x = true := isStr_iff.mpr (zAQ q)
   simp only [this, if_true]
   exact .cons d r
  | false =>
   have : (Value.str y u).isStr x = false := by
    cases z : (Value.str y u).isStr x with
    | false => rfl
    | true => exact absurd (isStr_iff.mp z) (zAo q)
   simp only [this, Bool.false_eq_true, if_false]
   exact .cons d' (r.set d)
theorem EntR.some {P : Params} {B : Heap} {ads : Wd} {x : Str} {es : List DictEntry} {fs : List (Str × SV)} (h : EntR P B ads es fs) : (getL x es).isSome = true := by
 cases q : lk x fs with
 | none => rw [h.miss q]; rfl
 | some sv => obtain ⟨v, e, _⟩ := h.get q; rw [e]; rfl
theorem EntR.length {P : Params} {B : Heap} {ads : Wd} {es : List DictEntry} {fs : List (Str × SV)} (h : EntR P B ads es fs) : es.length = fs.length := by
 induction h with
 | nil => rfl
 | cons _ _ ih => simp [ih]
inductive DenL (B : Heap) (ads : Wd) : List SV → List Value → Prop
 | nil : DenL B ads [] []
 | cons {x : SV} {v : Value} {xs : List SV} {vs : List Value} : Den B ads x v → DenL B ads xs vs → DenL B ads (x :: xs) (v :: vs)
theorem DenL.one {B : Heap} {G : Wd} {x : SV} {vs : List Value} (h : DenL B G [x] vs) : ∃ v, vs = [v] ∧ Den B G x v := by
 cases h with
 | cons d r => cases r; exact ⟨_, rfl, d⟩
theorem DenL.two {B : Heap} {G : Wd} {x y : SV} {vs : List Value} (h : DenL B G [x, y] vs) : ∃ v u, vs = [v, u] ∧ Den B G x v ∧ Den B G y u := by
 cases h with
 | cons d r =>
  obtain ⟨u, rfl, e⟩ := r.one
  exact ⟨_, _, rfl, d, e⟩
theorem DenL.mono {B : Heap} {ads more : Wd} {xs : List SV} {vs : List Value} (h : DenL B ads xs vs) : DenL B (wa ads more) xs vs := by
 induction h with
 | nil => exact .nil
 | cons d _ ih => exact .cons d.mono ih
theorem DenL.length {B : Heap} {ads : Wd} {xs : List SV} {vs : List Value} (h : DenL B ads xs vs) : xs.length = vs.length := by
 induction h with
 | nil => rfl
 | cons _ _ ih => simp [ih]
theorem DenL.append {B : Heap} {ads : Wd} {xs ys : List SV} {vs us : List Value} (h : DenL B ads xs vs) (h' : DenL B ads ys us) : DenL B ads (xs ++ ys) (vs ++ us) := by
 induction h with
 | nil => exact h'
 | cons d _ ih => exact .cons d ih
theorem DenL.get {B : Heap} {ads : Wd} {x : SV} : ∀ {xs : List SV} {vs : List Value} {i : Nat}, DenL B ads xs vs → xs[i]? = some x → ∃ v, vs[i]? = some v ∧ Den B ads x v
 | _, _, _, .nil, h => by simp at h
 | _, _, 0, .cons d _, h => by
  simp only [List.getElem?_cons_zero, Option.some.injEq] at h
  subst h
  exact ⟨_, rfl, d⟩
 | _, _, i + 1, .cons _ r, h => r.get (i := i) (by simpa using h)
theorem zQU {B : Heap} {W : Wd} {v : Value} {d : PyData} (f : Fits d) (r : Rd B W.fz v d) : Den B W (svOf d) v := by
 cases f with
 | none => cases r; rfl
 | bool b => cases r; rfl
 | int i => cases r; exact ⟨_, rfl⟩
 | str l => cases r; exact ⟨⟨_, rfl⟩, l⟩
 | list a b =>
  obtain ⟨x, e⟩ : ∃ x, v = .ref x := by cases r; exact ⟨_, rfl⟩
  exact ⟨⟨x, e⟩, .list a b, r⟩
 | tuple a b =>
  obtain ⟨x, e⟩ : ∃ x, v = .ref x := by cases r; exact ⟨_, rfl⟩
  exact ⟨⟨x, e⟩, .tuple a b, r⟩
 | dict a b c => cases r
theorem zNs {B : Heap} {W : Wd} : ∀ {vs : List Value} {ds : List PyData}, (∀ d ∈ ds, Fits d) → RdL B W.fz vs ds → DenL B W (ds.map svOf) vs := by
 intro vs
 induction vs with
 | nil => intro ds _ r; cases r; exact .nil
 | cons v vs ih => intro ds f r; cases r with | cons r rs => exact .cons (zQU (f _ (.head _)) r) (ih (fun d hd => f d (.tail _ hd)) rs)
noncomputable abbrev zES (vs : List Value) (n : Nat) : Obj := { cls := .type "list", data := .seq vs.toArray n }
noncomputable abbrev tupO (vs : List Value) (n : Nat) : Obj := { cls := .type "tuple", data := .seq vs.toArray n }
noncomputable def zPu (b : Bool) (o : Obj) (v : Value) (j : Nat) : Prop := match v with
 | .ref l => o.cls = .type (if b then "list_iterator" else "tuple_iterator") ∧ o.data = .fields #[.ref l, .int j 0]
 | .str x t => o.cls = .type (strIterType x) ∧ o.data = .fields #[.str x t, .int j 0]
 | _ => False
noncomputable abbrev zEB (n j : Nat) : Obj := { cls := .type "range_iterator", dict := none, data := .fields #[rawInt j, rawInt ((n : Int) - j), rawInt 1], slots := #[] }
noncomputable abbrev rngO (n : Nat) (t u v : Tok) : Obj := { cls := .type "range", dict := none, data := .fields #[.int 0 t, .int n u, .int 1 v], slots := #[] }
noncomputable def DicO (P : Params) (o : Obj) (kvs : List (Str × Value)) : Prop := ∃ (prog : Program) (w : World), w.params = P ∧ o.IsDictOf (strKind prog w) kvs
inductive KvR (B : Heap) (G : Wd) : List (Str × SV) → List (Str × Value) → Prop
 | nil : KvR B G [] []
 | cons {x : Str} {sv : SV} {v : Value} {fs : List (Str × SV)} {kvs : List (Str × Value)} : Den B G sv v → KvR B G fs kvs → KvR B G ((x, sv) :: fs) ((x, v) :: kvs)
theorem KvR.mono {B : Heap} {G more : Wd} {fs : List (Str × SV)} {kvs : List (Str × Value)} (h : KvR B G fs kvs) : KvR B (wa G more) fs kvs := by
 induction h with
 | nil => exact .nil
 | cons d _ ih => exact .cons d.mono ih
theorem KvR.names {B : Heap} {G : Wd} {fs : List (Str × SV)} {kvs : List (Str × Value)} (h : KvR B G fs kvs) : kvs.map (·.1) = fs.map (·.1) := by
 induction h with
 | nil => rfl
 | cons d _ ih => simp [ih]
theorem KvR.length {B : Heap} {G : Wd} {fs : List (Str × SV)} {kvs : List (Str × Value)} (h : KvR B G fs kvs) : kvs.length = fs.length := by
 have := congrArg List.length h.names; simpa using this
noncomputable abbrev tabO (ps : Array Value) : Obj := { cls := .none, data := .fields ps }
inductive One (P : Params) (B : Heap) (G : Wd) : SO → Addr → Addr → List (Addr × Obj) → Prop
 | inst {a d C : Addr} {es : List DictEntry} {n : Nat} {fs : List (Str × SV)} : EntR P B G es fs → One P B G (.inst C fs) a d [(a, instObj C d), (d, dictOf es n)]
 | raw {a d : Addr} {o : Obj} : One P B G (.raw o) a d [(a, o)]
 | list {a d : Addr} {xs : List SV} {vs : List Value} {n : Nat} : DenL B G xs vs → One P B G (.list xs) a d [(a, zES vs n)]
 | tup {a d : Addr} {xs : List SV} {vs : List Value} {n : Nat} : DenL B G xs vs → One P B G (.tup xs) a d [(a, tupO vs n)]
 | cell {a d : Addr} {o : Obj} {v : SV} {x : Value} : o.data = .cell (some x) → Den B G v x → One P B G (.cell (some v)) a d [(a, o)]
 | cell0 {a d : Addr} {o : Obj} : o.data = .cell none → One P B G (.cell none) a d [(a, o)]
 | dic {a d : Addr} {o : Obj} {kvs : List (Str × Value)} {fs : List (Str × SV)} : DicO P o kvs → KvR B G fs kvs → One P B G (.dic fs) a d [(a, o)]
 | it {a d : Addr} {o : Obj} {v : Value} {b : Bool} {src : SV} {j : Nat} : zPu b o v j → Den B G src v → One P B G (.it b src j) a d [(a, o)]
 | itr {a d : Addr} {n j : Nat} : One P B G (.itr n j) a d [(a, zEB n j)]
 | rng {a d : Addr} {n : Nat} {t u v : Tok} : n ≤ sizeLine → One P B G (.rng n) a d [(a, rngO n t u v)]
 | gone {a d : Addr} : One P B G .gone a d []
 | tab {a d : Addr} {ps : Array Value} : TriplesOk ps.toList → One P B G (.tab a) a d [(a, tabO ps)]
theorem One.mono {P : Params} {B : Heap} {G more : Wd} {so : SO} {a d : Addr} {ps : List (Addr × Obj)} (h : One P B G so a d ps) : One P B (wa G more) so a d ps := by
 cases h with
 | inst e => exact .inst e.mono
 | raw => exact .raw
 | list e => exact .list e.mono
 | tup e => exact .tup e.mono
 | cell e f => exact .cell e f.mono
 | cell0 e => exact .cell0 e
 | dic e f => exact .dic e f.mono
 | it e f => exact .it e f.mono
 | itr => exact .itr
 | rng e => exact .rng e
 | gone => exact .gone
 | tab e => exact .tab e
noncomputable def OneX (P : Params) (B : Heap) (G : Wd) : SO → Addr → Addr → List (Addr × Obj) → Prop
 | .inst C fs, a, d, ps => ∃ (es : List DictEntry) (n : Nat), EntR P B G es fs ∧ ps = [(a, instObj C d), (d, dictOf es n)]
 | .raw o, a, _, ps => ps = [(a, o)]
 | .list xs, a, _, ps => ∃ (vs : List Value) (n : Nat), DenL B G xs vs ∧ ps = [(a, zES vs n)]
 | .tup xs, a, _, ps => ∃ (vs : List Value) (n : Nat), DenL B G xs vs ∧ ps = [(a, tupO vs n)]
 | .cell o, a, _, ps => ∃ (p : Obj), ps = [(a, p)] ∧ match o with
  | some v => ∃ (x : Value), p.data = .cell (some x) ∧ Den B G v x
  | none => p.data = .cell none
 | .dic fs, a, _, ps => ∃ (o : Obj) (kvs : List (Str × Value)), DicO P o kvs ∧ KvR B G fs kvs ∧ ps = [(a, o)]
 | .it b src j, a, _, ps => ∃ (o : Obj) (v : Value), zPu b o v j ∧ Den B G src v ∧ ps = [(a, o)]
 | .itr n j, a, _, ps => ps = [(a, zEB n j)]
 | .rng n, a, _, ps => ∃ (t u v : Tok), n ≤ sizeLine ∧ ps = [(a, rngO n t u v)]
 | .gone, _, _, ps => ps = []
 | .tab a, b, _, ps => a = b ∧ ∃ (vs : Array Value), TriplesOk vs.toList ∧ ps = [(a, tabO vs)]
theorem One.inv {P : Params} {B : Heap} {G : Wd} {so : SO} {a d : Addr} {ps : List (Addr × Obj)} (h : One P B G so a d ps) : OneX P B G so a d ps := by
 cases h with
 | inst e => exact ⟨_, _, e, rfl⟩
 | raw => exact rfl
 | list e => exact ⟨_, _, e, rfl⟩
 | tup e => exact ⟨_, _, e, rfl⟩
 | cell e f => exact ⟨_, rfl, _, e, f⟩
 | cell0 e => exact ⟨_, rfl, e⟩
 | dic e f => exact ⟨_, _, e, f, rfl⟩
 | it e f => exact ⟨_, _, e, f, rfl⟩
 | itr => exact rfl
 | rng e => exact ⟨_, _, _, e, rfl⟩
 | gone => exact rfl
 | tab e => exact ⟨rfl, _, e, rfl⟩
inductive LedR (P : Params) (B : Heap) (G : Wd) : List (Addr × Addr) → List SO → List (Addr × Obj) → Prop
 | nil : LedR P B G [] [] []
 | cons {a d : Addr} {so : SO} {ps : List (Addr × Obj)} {ads : List (Addr × Addr)} {led : List SO} {news : List (Addr × Obj)} : One P B G so a d ps → LedR P B G ads led news → LedR P B G ((a, d) :: ads) (so :: led) (ps ++ news)
theorem LedR.mono {P : Params} {B : Heap} {G more : Wd} {ads : List (Addr × Addr)} {led : List SO} {news : List (Addr × Obj)} (h : LedR P B G ads led news) : LedR P B (wa G more) ads led news := by
 induction h with
 | nil => exact .nil
 | cons e _ ih => exact .cons e.mono ih
theorem LedR.append {P : Params} {B : Heap} {G : Wd} {ads ads' : List (Addr × Addr)} {led led' : List SO} {news news' : List (Addr × Obj)} (h : LedR P B G ads led news) (h' : LedR P B G ads' led' news') : LedR P B G (ads ++ ads') (led ++ led') (news ++ news') := by
 induction h with
 | nil => exact h'
 | cons e _ ih => rw [List.append_assoc]; exact .cons e ih
theorem LedR.length {P : Params} {B : Heap} {G : Wd} {ads : List (Addr × Addr)} {led : List SO} {news : List (Addr × Obj)} (h : LedR P B G ads led news) : led.length = ads.length := by
 induction h with
 | nil => rfl
 | cons _ _ ih => simp [ih]
theorem LedR.at {P : Params} {B : Heap} {G : Wd} {so : SO} : ∀ {ads : List (Addr × Addr)} {led : List SO} {news : List (Addr × Obj)} {i : Nat}, LedR P B G ads led news → led[i]? = some so →
  ∃ pre ps post a d, news = pre ++ ps ++ post ∧ ads[i]? = some (a, d) ∧ One P B G so a d ps ∧ ∀ so' ps', One P B G so' a d ps' → LedR P B G ads (led.set i so') (pre ++ ps' ++ post)
 | _, _, _, _, .nil, h => by simp at h
 | _, _, _, 0, .cons (a := a) (d := d) (ps := ps) (news := news) e r, h => by
  simp only [List.getElem?_cons_zero, Option.some.injEq] at h
  subst h
  exact ⟨[], ps, news, a, d, rfl, rfl, e, fun so' ps' e' => .cons e' r⟩
 | _, _, _, i + 1, .cons (a := a) (d := d) (ps := qs) (news := news) e r, h => by
  obtain ⟨pre, ps, post, a', d', h1, h2, h3, h4⟩ := r.at (i := i) (by simpa using h)
  exact ⟨qs ++ pre, ps, post, a', d', by rw [h1]; simp, by simpa using h2, h3, fun x y z => by
   have := LedR.cons e (h4 x y z)
   simpa using this⟩
theorem zCs {α : Type} {x : Str} {a : α} : ∀ {l : List (Str × α)}, lk x l = some a → (x, a) ∈ l
 | [], h => by cases h
 | (y, b) :: r, h => by
  unfold lk at h
  cases q : Fast.sEq x y with
  | true => rw [q] at h; cases h; rw [zAQ q]; exact .head _
  | false => rw [q] at h; exact .tail _ (zCs h)
noncomputable def kids : Expr → List Expr
 | .BoolOp _ vs _ => vs
 | .Compare l _ rs _ => l :: rs
 | .Call f as _ _ => f :: as
 | .Attribute o _ _ => [o]
 | .BinOp l _ r _ => [l, r]
 | .GeneratorExp e gs _ _ => match gs with
  | g :: _ => [e, g.target, g.iter]
  | [] => [e]
 | _ => []
noncomputable def kid (e : Expr) : List Nat → Expr
 | [] => e
 | n :: r => kid (((kids e)[n]?).getD default) r
noncomputable def kp (e : Expr) (l : List Nat) : Pos := (kid e l).pos
noncomputable def kK (e : Expr) (l : List Nat) : Nat := match kid e l with
 | .Constant _ k _ => k
 | _ => 0
noncomputable def sEx : Stmt → Expr
 | .If t _ _ _ => t
 | .Return v _ => v.getD default
 | _ => default
noncomputable def sBo : Stmt → List Stmt
 | .If _ b _ _ => b
 | _ => []
noncomputable def kw0 : Expr → Keyword
 | .Call _ _ (k :: _) _ => k
 | _ => ⟨none, default, default⟩
noncomputable def geSc : Expr → Scope
 | .GeneratorExp _ _ sc _ => sc
 | _ => default
structure FnE where
 fa : Addr
 na : Nat
 names : List Str
 more : List (Str × Value)
 body : List Stmt
 scope : Scope
 qual : Str
 cd : Value
 cells : List Str := []
structure ClsE where
 C : Addr
 attrs : List Str
 meths : List (Str × Addr)
 props : List (Str × Addr × Addr)
structure SpE where
 fa : Addr
 na : Nat
 d : Nat
 sp : List SV → St → Kt → Prop
structure HkE (α : Type) where
 line : Nat
 col : Nat
 d : Nat
 x : α
 sp : List (Str × NameKind) → St → Kt → Prop
structure Cf where
 K : Frag
 globs : List (Str × Value)
 fns : List FnE
 cls : List ClsE
 sps : List SpE := []
 hxs : List (HkE Expr) := []
 hss : List (HkE Stmt) := []
 known : Bool := true
structure Fm where
 B : Heap
 h₀ : Heap
 L : Addr
 env : Env
 A : Around
 stk : List Env
 lows : List (Addr × Obj)
 quiet : Bool
noncomputable abbrev Fm.sc (F : Fm) : Scope := F.env.scope
structure GlobOk (h : Heap) : Prop where
 lim : h.NoLimit
 ns : ∃ mg mb, h.Ns mainGlobals mg ∧ h.Ns builtinsNs mb ∧ ∀ x : Str, x ≠ "__name__" → mb x = bootBuiltins x
 stat : ∃ o, h.get? cStatics = some o ∧ lookIn "thirdparty.any" o = some none
 sm : ∃ o, h.get? sysModules = some o
theorem GlobOk.keeps {h h' : Heap} (G : GlobOk h) (k : ∀ b o, h.get? b = some o → h'.get? b = some o) : GlobOk h' :=
 ⟨G.lim.keeps k, let ⟨mg, mb, a, b, c⟩ := G.ns; ⟨mg, mb, a.keeps k, b.keeps k, c⟩, let ⟨o, a, b⟩ := G.stat; ⟨o, k _ _ a, b⟩, let ⟨o, a⟩ := G.sm; ⟨o, k _ _ a⟩⟩
inductive Ups : List (Addr × Obj) → List (Addr × Obj) → Prop
 | nil : Ups [] []
 | cons {a : Addr} {o : Obj} {sl : Array (Option Value)} {l l' : List (Addr × Obj)} : Ups l l' → Ups ((a, o) :: l) ((a, { o with slots := sl }) :: l')
theorem Ups.refl : ∀ l : List (Addr × Obj), Ups l l
 | [] => .nil
 | (a, o) :: r => .cons (o := o) (sl := o.slots) (Ups.refl r)
theorem Ups.trans : ∀ {a b c : List (Addr × Obj)}, Ups a b → Ups b c → Ups a c := by
 intro a b c x
 induction x generalizing c with
 | nil => exact fun y => y
 | cons _ ih => intro y; cases y with | cons y => exact .cons (ih y)
theorem Ups.keys : ∀ {a b : List (Addr × Obj)}, Ups a b → b.map (·.1) = a.map (·.1) := by
 intro a b x
 induction x with
 | nil => rfl
 | @cons a _ _ _ _ _ ih => exact congrArg (List.cons a) ih
theorem Ups.back : ∀ {a b : List (Addr × Obj)} {q : Addr × Obj}, Ups a b → q ∈ b → ∃ o, (q.1, o) ∈ a ∧ q.2 = { o with slots := q.2.slots }
 | _, _, _, .nil, h => by cases h
 | _, _, _, .cons x, h => by
  rcases List.mem_cons.mp h with rfl | h
  ·exact ⟨_, .head _, rfl⟩
  ·obtain ⟨o, a, e⟩ := x.back h; exact ⟨o, .tail _ a, e⟩
structure LowOk (stk : List Env) (L : Addr) (lows : List (Addr × Obj)) : Prop where
 env : ∀ env ∈ stk, env.scope.kind ≠ .module ∧ ∃ L', env.frame = some L' ∧ (L' = L ∨ L' ∈ lows.map (·.1))
 dat : ∀ p ∈ lows, ∀ vs, p.2.data ≠ .fields vs
theorem LowOk.ups {stk : List Env} {L : Addr} {lows lw : List (Addr × Obj)} (l : LowOk stk L lows) (u : Ups lows lw) : LowOk stk L lw := by
 refine ⟨fun env he => ?_, fun p hp vs q => ?_⟩
 ·obtain ⟨a, L, b, c⟩ := l.env env he
  exact ⟨a, L, b, by rw [u.keys]; exact c⟩
 ·obtain ⟨o, a, e⟩ := u.back hp
  refine l.dat _ a vs ?_
  rw [e] at q; exact q
theorem LowOk.push {stk : List Env} {lows : List (Addr × Obj)} {env : Env} {L L₂ : Addr} {o : Obj} (l : LowOk stk L lows) (h1 : env.scope.kind ≠ .module) (h2 : env.frame = some L₂) (h3 : ∀ vs, o.data ≠ .fields vs) : LowOk (env :: stk) L₂ ((L, o) :: lows) := by
 refine ⟨fun e he => ?_, fun p hp vs => ?_⟩
 ·rcases List.mem_cons.mp he with rfl | he
  ·exact ⟨h1, L₂, h2, .inl rfl⟩
  ·obtain ⟨a, L', b, c⟩ := l.env e he
   refine ⟨a, L', b, .inr ?_⟩
   rcases c with rfl | c
   ·exact .head _
   ·exact .tail _ c
 ·rcases List.mem_cons.mp hp with rfl | hp
  ·exact h3 vs
  ·exact l.dat p hp vs
theorem LowOk.inner {stk : List Env} {lows : List (Addr × Obj)} {L L₂ : Addr} {o : Obj} (l : LowOk stk L lows) (h3 : ∀ vs, o.data ≠ .fields vs) : LowOk stk L₂ ((L, o) :: lows) := by
 refine ⟨fun e he => ?_, fun p hp vs => ?_⟩
 ·obtain ⟨a, L', b, c⟩ := l.env e he
  refine ⟨a, L', b, .inr ?_⟩
  rcases c with rfl | c
  ·exact .head _
  ·exact .tail _ c
 ·rcases List.mem_cons.mp hp with rfl | hp
  ·exact h3 vs
  ·exact l.dat p hp vs
structure FmOk (C : Cf) (F : Fm) : Prop where
 X : C.K.In F.h₀
 G : GlobOk F.h₀
 stay : F.B.StaysIn F.h₀
 kind : F.sc.kind = .function
 hand : F.A.handled = none
 stack : C.known = true → F.A.frames = some F.stk
 loud : C.known = true → F.quiet = false
 low : LowOk F.stk F.L F.lows
 loc : F.env.locals = F.L
 gl : F.env.globals = mainGlobals
 bi : F.env.builtins = builtinsNs
 cel : ∀ x, F.sc.names.lookup x = some .local → F.env.cells.lookup x = none
 cel2 : ∀ x, F.sc.names.lookup x = some .cell → ∃ a, F.env.cells.lookup x = some a
noncomputable def locM (env : Env) (m : Str → Option Value) : Str → Option Value := fun x => match env.cells.lookup x with
 | some a => some (.ref a)
 | none => m x
structure RepX (w : World) (F : Fm) (ads : Wd) (st : St) (h : Heap) (m : Str → Option Value) (news lw : List (Addr × Obj)) : Prop where
 fr : Fr F.h₀ F.L h m
 nw : News F.h₀ F.L h (news ++ (ads.fz ++ lw))
 loc : LocR F.B ads st.loc (locM F.env m)
 led : LedR w.params F.B ads ads.ads st.led news
 nd : ((news ++ (ads.fz ++ lw)).map (·.1)).Nodup
 ups : Ups F.lows lw
noncomputable def Rep (w : World) (F : Fm) (ads : Wd) (st : St) (h : Heap) : Prop := ∃ m news lw, RepX w F ads st h m news lw
structure NxB (q : Bool) (s s' : Shared) : Prop where
 drawn : s'.drawn = s.drawn
 os : s'.os = s.os
 keep : ∀ (i : Nat) (x : GenState), s.gens[i]? = some x → s'.gens[i]? = some x
 done : ∀ (i : Nat) (x : GenState), s'.gens[i]? = some x → s.gens[i]? = some x ∨ x.bare = true
 quiet : q = true → s'.gens = s.gens
noncomputable abbrev Nx (F : Fm) (s s' : Shared) : Prop := NxB F.quiet s s'
theorem Nx.of_gens {q : Bool} {s s' : Shared} (a : s'.gens = s.gens) (b : s'.drawn = s.drawn) (c : s'.os = s.os) : NxB q s s' := ⟨b, c, fun i x e => by rw [a]; exact e, fun i x e => by rw [a] at e; exact .inl e, fun _ => a⟩
theorem Nx.refl {q : Bool} (s : Shared) : NxB q s s := Nx.of_gens rfl rfl rfl
theorem NxB.trans {q : Bool} {a b c : Shared} (x : NxB q a b) (y : NxB q b c) : NxB q a c :=
 ⟨y.drawn.trans x.drawn, y.os.trans x.os, fun i z e => y.keep i z (x.keep i z e), fun i z e => (y.done i z e).elim (fun q => x.done i z q) .inr, fun h => (y.quiet h).trans (x.quiet h)⟩
theorem Nx.mk' {q : Bool} (s : Shared) (h : Heap) (t : Nat) : NxB q s { s with heap := h, toks := t } := Nx.of_gens rfl rfl rfl
theorem zAf {q : Bool} (s : Shared) (t : Nat) : NxB q s { s with toks := t } := Nx.of_gens rfl rfl rfl
inductive CR where
 | v (x : Value)
 | b (x : Bool)
 | vs (l : List Value)
 | fl (f : Flow)
noncomputable def DenR (B : Heap) (ads : Wd) : SR → CR → Prop
 | .v x, .v y => Den B ads x y
 | .b x, .b y => x = y
 | .vs l, .vs l' => DenL B ads l l'
 | .next, .fl .next => True
 | .brk, .fl .brk => True
 | .cont, .fl .cont => True
 | .ret x, .fl (.ret y) => Den B ads x y
 | _, _ => False
inductive Tk where
 | ex (e : Expr)
 | tr (e : Expr)
 | st (s : Stmt)
 | sts (l : List Stmt)
 | args (es : List Expr) (pos : Pos)
 | wl (t : Expr) (b : List Stmt)
noncomputable def zFY (fa n : Nat) : List FnE → Option FnE
 | [] => none
 | e :: r => match Nat.beq e.fa fa with
  | true => match Nat.beq e.na n with
   | true => some e
   | false => zFY fa n r
  | false => zFY fa n r
noncomputable def zIM (fa n : Nat) : List SpE → Option SpE
 | [] => none
 | e :: r => match Nat.beq e.fa fa with
  | true => match Nat.beq e.na n with
   | true => some e
   | false => zIM fa n r
  | false => zIM fa n r
noncomputable def zBq {α : Type} (line col : Nat) : List (HkE α) → Option (HkE α)
 | [] => none
 | e :: r => match Nat.beq e.line line with
  | true => match Nat.beq e.col col with
   | true => some e
   | false => zBq line col r
  | false => zBq line col r
noncomputable def findCls (C : Nat) : List ClsE → Option ClsE
 | [] => none
 | e :: r => match Nat.beq e.C C with
  | true => some e
  | false => findCls C r
noncomputable def zBl (x : Str) : List Str → Bool
 | [] => false
 | y :: r => match Fast.sEq x y with
  | true => true
  | false => zBl x r
noncomputable def ifT (c : Bool) (a b : Prop) : Prop := match c with
 | true => a
 | false => b
theorem zBY {c : Bool} {a b : Prop} (h : ifT c a b) : (c = true → a) ∧ (c = false → b) := by
 cases c
 ·exact ⟨(fun e => nomatch e), fun _ => h⟩
 ·exact ⟨fun _ => h, (fun e => nomatch e)⟩
theorem zBm (a b : Str) : (a == b) = Fast.sEq a b := by
 cases h : Fast.sEq a b with
 | true => rw [zAQ h]; exact beq_self_eq_true b
 | false => exact beq_eq_false_iff_ne.mpr (zAo h)
noncomputable def Then (w : World) (F : Fm) (ads : Wd) (s : Shared) (k : Kt) (Q : CR → Shared → Prop) : Prop :=
 ∀ r st' more c s', k r st' → Rep w F (wa ads more) st' s'.heap → Nx F s s' → DenR F.B (wa ads more) r c → Q c s'
noncomputable def ThenV (w : World) (F : Fm) (ads : Wd) (s : Shared) (k : SV → St → Prop) (Q : Value → Shared → Prop) : Prop :=
 ∀ r st' more v s', k r st' → Rep w F (wa ads more) st' s'.heap → Nx F s s' → Den F.B (wa ads more) r v → Q v s'
section
variable {w : World} {F : Fm} {ads : Wd} {s : Shared}
theorem Then.of {k : Kt} {Q : CR → Shared → Prop} (T : Then w F ads s k Q) {r : SR} {st' : St} {more : Wd} {c : CR} {s' : Shared} (hk : k r st') (R : Rep w F (wa ads more) st' s'.heap) (x : Nx F s s') (d : DenR F.B (wa ads more) r c) : Q c s' := T r st' more c s' hk R x d
theorem Then.same {k : Kt} {Q : CR → Shared → Prop} (T : Then w F ads s k Q) {r : SR} {st' : St} {c : CR} {s' : Shared} (hk : k r st') (R : Rep w F ads st' s'.heap) (x : Nx F s s') (d : DenR F.B ads r c) : Q c s' :=
 T r st' .nil c s' hk (by rw [Wd.append_nil]; exact R) x (by rw [Wd.append_nil]; exact d)
theorem Then.later {k : Kt} {Q : CR → Shared → Prop} {more : Wd} {s₁ : Shared} (T : Then w F ads s k Q) (x : Nx F s s₁) : Then w F (wa ads more) s₁ k Q := fun r st' more' c s' hk R x' d =>
 T r st' (wa more more') c s' hk (by rw [← Wd.append_assoc]; exact R) (x.trans x') (by rw [← Wd.append_assoc]; exact d)
theorem Then.v {k : Kt} {Q : CR → Shared → Prop} (T : Then w F ads s k Q) : ThenV w F ads s (fun z st => k (.v z) st) (fun v s' => Q (.v v) s') := fun r st' more v s' hk R x d => T (.v r) st' more (.v v) s' hk R x d
theorem ThenV.same {k : SV → St → Prop} {Q : Value → Shared → Prop} (T : ThenV w F ads s k Q) {r : SV} {st' : St} {v : Value} {s' : Shared} (hk : k r st') (R : Rep w F ads st' s'.heap) (x : Nx F s s') (d : Den F.B ads r v) : Q v s' :=
 T r st' .nil v s' hk (by rw [Wd.append_nil]; exact R) x (by rw [Wd.append_nil]; exact d)
end
section rep
variable {w : World} {C : Cf} {F : Fm} {ads : Wd} {s : Shared}
theorem zDN {st : St} {x : Str} {v : SV} (R : Rep w F ads st s.heap) (e : lk x st.loc = some v) : ∃ m news lw u, RepX w F ads st s.heap m news lw ∧ locM F.env m x = some u ∧ Den F.B ads v u := by
 obtain ⟨m, news, lw, X⟩ := R
 obtain ⟨u, a, b⟩ := X.loc x v e
 exact ⟨m, news, lw, u, X, a, b⟩
theorem zEx {st : St} {x : Str} {v : SV} {u : Value} {E : Value → Shared → Prop} {Q : Unit → Shared → Prop} (ok : FmOk C F) (R : Rep w F ads st s.heap) (d : Den F.B ads v u) (hl : F.sc.names.lookup x = some .local)
  (h : ∀ h' t, Rep w F ads { st with loc := put x v st.loc } h' → Q () { s with heap := h', toks := t }) : wpAny (model prog w) F.A (storeName F.env x u) Q E s := by
 obtain ⟨m, news, lw, X⟩ := R
 have ns : s.heap.Ns F.env.locals m := by rw [ok.loc]; exact X.fr.ns
 refine wpAny_storeName_local hl ns (fun h' hn hs => ?_) (by rw [show F.env.scope.kind = .function from ok.kind]; rfl)
 rw [ok.loc] at hn hs
 refine h h' _ ⟨_, news, lw, X.fr.set hn hs, X.nw.set hs, ?_, X.led, X.nd, X.ups⟩
 have e : locM F.env (fun y => if y = x then some u else m y) = fun y => if y = x then some u else locM F.env m y := by
  funext y
  unfold locM
  by_cases q : y = x
  ·subst q; rw [ok.cel y hl]
  ·simp only [if_neg q]
 rw [e]
 exact X.loc.set d
theorem zHz {C : Cf} (ok : FmOk C F) {x : Str} {m : Str → Option Value} (hl : F.sc.names.lookup x = some .local) : locM F.env m x = m x := by
 unfold locM; rw [ok.cel x hl]
theorem ldE {A : Around} {x : Str} {pos : Pos} {v : Value} {E : Value → Shared → Prop} {Q : Value → Shared → Prop} {m : Str → Option Value} (ok : FmOk C F) (X : Fr F.h₀ F.L s.heap m) (hl : F.sc.names.lookup x = some .local) (hv : locM F.env m x = some v) (h : Q v s)
  (hd : (x == ("__debug__" : Str)) = false) : wpAny (model prog w) A (eval (.Name x pos) F.env) Q E s :=
 wpAny_Name (wpAny_loadName_local ok.kind hl (by rw [ok.loc]; exact X.ns) ((zHz ok hl).symm.trans hv) h) hd
theorem ldnE {x : Str} {v : Value} {E : Value → Shared → Prop} {Q : Value → Shared → Prop} {m : Str → Option Value} (ok : FmOk C F) (X : Fr F.h₀ F.L s.heap m) (hl : F.sc.names.lookup x = some .local) (hv : locM F.env m x = some v) (h : Q v s) : wpAny (model prog w) F.A (loadName F.env x) Q E s :=
 wpAny_loadName_local ok.kind hl (by rw [ok.loc]; exact X.ns) ((zHz ok hl).symm.trans hv) h
theorem ldG {A : Around} {x : Str} {pos : Pos} {v : Value} {E : Value → Shared → Prop} {Q : Value → Shared → Prop} {m mg : Str → Option Value} (ok : FmOk C F) (X : Fr F.h₀ F.L s.heap m) (hg : F.h₀.Ns mainGlobals mg) (hb : mg x = some v) (h : Q v s)
  (hx : F.sc.names.lookup x = some .globalImplicit) (hd : (x == ("__debug__" : Str)) = false) : wpAny (model prog w) A (eval (.Name x pos) F.env) Q E s :=
 Calls.Name_function_global ok.kind hx (Calls.loadGlobal_global (env := F.env) (by rw [ok.gl]; exact hg.keeps X.keep) hb h) hd
theorem ldB {A : Around} {x : Str} {pos : Pos} {v : Value} {E : Value → Shared → Prop} {Q : Value → Shared → Prop} {m mg mb : Str → Option Value} (ok : FmOk C F) (X : Fr F.h₀ F.L s.heap m) (hg : F.h₀.Ns mainGlobals mg) (hmiss : mg x = none) (hb : F.h₀.Ns builtinsNs mb) (hv : mb x = some v) (h : Q v s)
  (hx : F.sc.names.lookup x = some .globalImplicit) (hd : (x == ("__debug__" : Str)) = false) : wpAny (model prog w) A (eval (.Name x pos) F.env) Q E s :=
 Calls.Name_function_global ok.kind hx (Calls.loadGlobal_builtin (env := F.env) (by rw [ok.gl]; exact hg.keeps X.keep) hmiss (by rw [ok.bi]; exact hb.keeps X.keep) hv h) hd
theorem zBK {st : St} {h : Heap} {o : Obj} {so : SO} (hf : o.isFreed = false) (R : Rep w F ads st h) (one : One w.params F.B (wa ads (.one h.objs.size 0)) so h.objs.size 0 [(h.objs.size, o)]) :
  Rep w F (wa ads (.one h.objs.size 0)) { st with led := st.led ++ [so] } (h.push o) := by
 obtain ⟨m, news, lw, X⟩ := R
 have N' := X.nw.push X.fr o hf
 have efz : (wa ads (Wd.one h.objs.size 0)).fz = ads.fz := by rw [Wd.fz_append]; exact List.append_nil _
 refine ⟨m, news ++ [(h.objs.size, o)], lw, X.fr.push o, fun p hp => N' p ?_, X.loc.mono, ?_, ?_, X.ups⟩
 ·rw [efz] at hp
  rcases List.mem_append.mp hp with q | q
  ·rcases List.mem_append.mp q with q | q
   ·exact .tail _ (List.mem_append_left _ q)
   ·rw [List.mem_singleton.mp q]; exact .head _
  ·exact .tail _ (List.mem_append_right _ q)
 ·have := X.led.mono (more := .one h.objs.size 0)
  have z := this.append (LedR.cons one LedR.nil)
  rw [List.append_nil] at z
  exact z
 ·rw [efz]
  have pm : (news ++ [(h.objs.size, o)] ++ (ads.fz ++ lw)).Perm ((h.objs.size, o) :: (news ++ (ads.fz ++ lw))) := by
   rw [List.append_assoc, List.singleton_append]
   exact List.perm_middle
  refine (pm.map (·.1)).nodup_iff.mpr ?_
  rw [List.map_cons, List.nodup_cons]
  refine ⟨fun ha => ?_, X.nd⟩
  obtain ⟨p, hp, e⟩ := List.mem_map.mp ha
  exact Nat.ne_of_lt (Heap.lt_size (X.nw p hp).1) e
theorem zJm {st : St} {h : Heap} (o : Obj) (R : Rep w F ads st h) : Rep w F ads st (h.push o) := by
 obtain ⟨m, news, lw, X⟩ := R
 exact ⟨m, news, lw, X.fr.push o, fun p hp => ⟨Heap.get?_push_of_some _ (X.nw p hp).1, (X.nw p hp).2⟩, X.loc, X.led, X.nd, X.ups⟩
theorem zDM {st : St} {h : Heap} (ok : FmOk C F) (R : Rep w F ads st h) : Look F.B ads.fz h := by
 obtain ⟨m, news, lw, X⟩ := R
 exact ⟨fun b o e => X.fr.keep b o (ok.stay b o e), fun p hp => (X.nw p (List.mem_append_right _ (List.mem_append_left _ hp))).1⟩
theorem zEc {F : Fm} {ads : Wd} {st : St} {h h' : Heap} (R : Rep w F ads st h) (e : ∀ b o, h.get? b = some o → h'.get? b = some o) : Rep w F ads st h' := by
 obtain ⟨m, news, lw, X⟩ := R
 exact ⟨m, news, lw, ⟨X.fr.ns.at' fun o q => e _ o q, fun b o q => e _ _ (X.fr.keep b o q), X.fr.above⟩, fun p hp => ⟨e _ _ (X.nw p hp).1, (X.nw p hp).2⟩, X.loc, X.led, X.nd, X.ups⟩
section
variable {st : St}
theorem zCj {h h' : Heap} {i : Nat} {so' : SO} {a : Addr} {o o' : Obj} {m : Str → Option Value} {news lw pre post : List (Addr × Obj)} (X : RepX w F ads st h m news lw)
  (e : news = pre ++ [(a, o)] ++ post) (hl : LedR w.params F.B ads ads.ads (st.led.set i so') (pre ++ [(a, o')] ++ post)) (ho : h'.get? a = some o') (hs : ∀ b, b ≠ a → ∀ o, h.get? b = some o → h'.get? b = some o) :
  Rep w F ads { st with led := st.led.set i so' } h' := by
 subst e
 have ha := X.nw (a, o) (by simp)
 have nd := X.nd
 have nd1 : ∀ p ∈ pre ++ post ++ (ads.fz ++ lw), p.1 ≠ a := by
  have pm : (pre ++ [(a, o)] ++ post ++ (ads.fz ++ lw)).Perm ((a, o) :: (pre ++ post ++ (ads.fz ++ lw))) := by
   rw [List.append_assoc, List.append_assoc, List.append_assoc]
   exact List.perm_middle
  have z := (pm.map (·.1)).nodup_iff.mp nd
  rw [List.map_cons, List.nodup_cons] at z
  intro p hp q
  exact z.1 (List.mem_map.mpr ⟨p, hp, q⟩)
 refine ⟨m, pre ++ [(a, o')] ++ post, lw, ⟨X.fr.ns.at' fun o q => hs _ (fun z => ha.2.1 z.symm) _ q, fun b o q => hs b (fun z => ?_) o (X.fr.keep b o q), X.fr.above⟩, fun p hp => ?_, X.loc, hl, ?_, X.ups⟩
 ·rw [z, ha.2.2] at q; cases q
 ·have hp' : p = (a, o') ∨ p ∈ pre ++ post ++ (ads.fz ++ lw) := by
   simp only [List.mem_append, List.mem_singleton] at hp ⊢
   rcases hp with ((q | q) | q) | q
   ·exact .inr (.inl (.inl q))
   ·exact .inl q
   ·exact .inr (.inl (.inr q))
   ·exact .inr (.inr q)
  rcases hp' with rfl | q
  ·exact ⟨ho, ha.2⟩
  ·have z := X.nw p (by
    simp only [List.mem_append, List.mem_singleton] at q ⊢
    rcases q with (q | q) | q
    ·exact .inl (.inl (.inl q))
    ·exact .inl (.inr q)
    ·exact .inr q)
   exact ⟨hs _ (nd1 p q) _ z.1, z.2⟩
 ·have : (pre ++ [(a, o')] ++ post ++ (ads.fz ++ lw)).map (·.1) = (pre ++ [(a, o)] ++ post ++ (ads.fz ++ lw)).map (·.1) := by simp
  rw [this]; exact nd
theorem zDP {h : Heap} {i : Nat} {so : SO} (R : Rep w F ads st h) (hi : st.led[i]? = some so) : ∃ m news lw pre ps post a d, RepX w F ads st h m news lw ∧ news = pre ++ ps ++ post ∧ ads.ads[i]? = some (a, d) ∧ One w.params F.B ads so a d ps ∧
  ∀ so' ps', One w.params F.B ads so' a d ps' → LedR w.params F.B ads ads.ads (st.led.set i so') (pre ++ ps' ++ post) := by
 obtain ⟨m, news, lw, X⟩ := R
 obtain ⟨pre, ps, post, a, d, h1, h2, h3, h4⟩ := X.led.at hi
 exact ⟨m, news, lw, pre, ps, post, a, d, X, h1, h2, h3, h4⟩
theorem zHp {h h' : Heap} {i : Nat} {a : Addr} {o : Obj} {m : Str → Option Value} {news lw pre post : List (Addr × Obj)} (X : RepX w F ads st h m news lw)
  (e : news = pre ++ [(a, o)] ++ post) (hl : LedR w.params F.B ads ads.ads (st.led.set i .gone) (pre ++ [] ++ post)) (hs : ∀ b, b ≠ a → ∀ o, h.get? b = some o → h'.get? b = some o) :
  Rep w F ads { st with led := st.led.set i .gone } h' := by
 subst e
 have ha := X.nw (a, o) (by simp)
 have nd := X.nd
 have pm : (pre ++ [(a, o)] ++ post ++ (ads.fz ++ lw)).Perm ((a, o) :: (pre ++ [] ++ post ++ (ads.fz ++ lw))) := by
  simp only [List.append_assoc, List.append_nil, List.nil_append]
  exact List.perm_middle
 have z := (pm.map (·.1)).nodup_iff.mp nd
 rw [List.map_cons, List.nodup_cons] at z
 refine ⟨m, pre ++ [] ++ post, lw, ⟨X.fr.ns.at' fun o q => hs _ (fun z => ha.2.1 z.symm) _ q, fun b o q => hs b (fun z => ?_) o (X.fr.keep b o q), X.fr.above⟩, fun p hp => ?_, X.loc, hl, z.2, X.ups⟩
 ·rw [z, ha.2.2] at q; cases q
 ·have y := X.nw p (pm.mem_iff.mpr (.tail _ hp))
  exact ⟨hs _ (fun q => z.1 (List.mem_map.mpr ⟨p, hp, q⟩)) _ y.1, y.2⟩
theorem zIa (ok : FmOk C F) {x : Str} {i : Nat} {m : Str → Option Value} (hk : F.sc.names.lookup x = some .cell) {u : Value} (e : locM F.env m x = some u) (d : Den F.B ads (.obj i) u) : ∃ p, F.env.cells.lookup x = some p.1 ∧ ads.ads[i]? = some p ∧ u = .ref p.1 := by
 obtain ⟨a, ha⟩ := ok.cel2 x hk
 obtain ⟨p, hp, rfl⟩ := d
 unfold locM at e
 rw [ha] at e
 cases e
 exact ⟨p, ha, hp, rfl⟩
theorem zOw {x : Str} {i : Nat} {v : SV} {E : Value → Shared → Prop} {Q : Value → Shared → Prop} (ok : FmOk C F) (R : Rep w F ads st s.heap) (hk : F.sc.names.lookup x = some .cell) (e : lk x st.loc = some (.obj i)) (hi : st.led[i]? = some (.cell (some v)))
  (h : ∀ u, Den F.B ads v u → Q u s) : wpAny (model prog w) F.A (loadName F.env x) Q E s := by
 obtain ⟨m, news, lw, pre, ps, post, a, d, X, h1, h2, h3, h4⟩ := zDP R hi
 obtain ⟨u, e1, e2⟩ := X.loc x _ e
 obtain ⟨p, c1, c2, rfl⟩ := zIa ok hk e1 e2
 rw [h2] at c2; cases c2
 obtain ⟨o, rfl, y, hd, dv⟩ := h3.inv
 ·exact wpAny_loadName_cell ok.kind hk c1 ⟨o, (X.nw (a, o) (by rw [h1]; simp)).1, hd⟩ (h y dv)
theorem zHq {x : Str} {i : Nat} {v : SV} {old : Option SV} {u : Value} {E : Value → Shared → Prop} {Q : Unit → Shared → Prop} (ok : FmOk C F) (R : Rep w F ads st s.heap) (hk : F.sc.names.lookup x = some .cell) (e : lk x st.loc = some (.obj i)) (hi : st.led[i]? = some (.cell old)) (dv : Den F.B ads v u)
  (h : ∀ h', Rep w F ads { st with led := st.led.set i (.cell (some v)) } h' → Q () { s with heap := h' }) : wpAny (model prog w) F.A (storeName F.env x u) Q E s := by
 obtain ⟨m, news, lw, pre, ps, post, a, d, X, h1, h2, h3, h4⟩ := zDP R hi
 obtain ⟨y, e1, e2⟩ := X.loc x _ e
 obtain ⟨p, c1, c2, rfl⟩ := zIa ok hk e1 e2
 rw [h2] at c2; cases c2
 have key : ∀ o ov, ps = [(a, o)] → o.data = .cell ov → wpAny (model prog w) F.A (storeName F.env x u) Q E s := by
  intro o ov eps hd
  rw [eps] at h1
  refine wpAny_storeName_cell ok.kind hk c1 ⟨o, (X.nw (a, o) (by rw [h1]; simp)).1, hd⟩ fun h' hc hs => ?_
  obtain ⟨o', ho', hd'⟩ := hc
  exact h h' (zCj X h1 (h4 _ _ (One.cell hd' dv)) ho' fun b hb o q => (hs.2 b hb).trans q)
 obtain ⟨o, rfl, hd⟩ := h3.inv
 cases old with
 | some _ => obtain ⟨_, hd, _⟩ := hd; exact key _ _ rfl hd
 | none => exact key _ _ rfl hd
end
end rep
noncomputable def zAd (x : Str) : List (Str × NameKind) → Option NameKind
 | [] => none
 | (y, a) :: r => match Fast.sEq x y with
  | true => some a
  | false => zAd x r
theorem zAW (x : Str) : ∀ l : List (Str × NameKind), zAd x l = l.lookup x
 | [] => rfl
 | (y, a) :: r => by
  unfold zAd
  rw [List.lookup_cons, zBm, zAW x r]
  cases Fast.sEq x y <;> rfl
noncomputable abbrev kLoc (o : Option NameKind) : Bool := match o with
 | none => false
 | some k => match k with
  | .local => true
  | _ => false
noncomputable abbrev kCel (o : Option NameKind) : Bool := match o with
 | none => false
 | some k => match k with
  | .cell => true
  | _ => false
noncomputable abbrev kFre (o : Option NameKind) : Bool := match o with
 | none => false
 | some k => match k with
  | .free => true
  | _ => false
theorem zAO {a b : Bool} (h : (a && b) = true) : a = true ∧ b = true := by
 cases a with
 | false => exact Bool.noConfusion h
 | true => exact ⟨rfl, h⟩
theorem zFM {x : Str} {l : List (Str × NameKind)} (h : kLoc (zAd x l) = true) : l.lookup x = some .local := by
 rw [zAW] at h
 cases q : l.lookup x with
 | none => rw [q] at h; exact Bool.noConfusion h
 | some k => rw [q] at h; cases k <;> first | rfl | exact Bool.noConfusion h
theorem zJK {x : Str} {l : List (Str × NameKind)} (h : kCel (zAd x l) = true) : l.lookup x = some .cell := by
 rw [zAW] at h
 cases q : l.lookup x with
 | none => rw [q] at h; exact Bool.noConfusion h
 | some k => rw [q] at h; cases k <;> first | rfl | exact Bool.noConfusion h
theorem zSE {x : Str} {l : List (Str × NameKind)} (h : kFre (zAd x l) = true) : l.lookup x = some .free := by
 rw [zAW] at h
 cases q : l.lookup x with
 | none => rw [q] at h; exact Bool.noConfusion h
 | some k => rw [q] at h; cases k <;> first | rfl | exact Bool.noConfusion h
section
variable {w : World} {C : Cf} {F : Fm} {ads : Wd} {s : Shared} {st : St}
theorem zRb {h : Heap} (R : Rep w F ads st h) : ∃ o, h.get? F.L = some o := by
 obtain ⟨m, news, lw, X⟩ := R
 obtain ⟨oL, es, ep, hL, _⟩ := X.fr.ns
 exact ⟨oL, hL⟩
theorem zJB {h h' : Heap} {a : Addr} {o : Obj} {m : Str → Option Value} {news lw : List (Addr × Obj)} (X : RepX w F ads st h m news lw) (F' : Fr F.h₀ F.L h' m) (N' : News F.h₀ F.L h' ((a, o) :: (news ++ (ads.fz ++ lw)))) (ha : h.objs.size ≤ a) :
  Rep w F (wa ads (⟨[], [(a, o)]⟩ : Wd)) st h' := by
 have efz : (wa ads (⟨[], [(a, o)]⟩ : Wd)).fz = ads.fz ++ [(a, o)] := rfl
 have eads : (wa ads (⟨[], [(a, o)]⟩ : Wd)).ads = ads.ads := List.append_nil _
 have pm : (news ++ (ads.fz ++ [(a, o)] ++ lw)).Perm ((a, o) :: (news ++ (ads.fz ++ lw))) := by
  rw [← List.append_assoc, ← List.append_assoc, List.append_assoc (news ++ ads.fz), List.singleton_append, ← List.append_assoc]
  exact List.perm_middle
 refine ⟨m, news, lw, F', fun p hp => ?_, X.loc.mono, ?_, ?_, X.ups⟩
 ·rw [efz] at hp
  exact N' p (pm.mem_iff.mp hp)
 ·rw [eads]; exact X.led.mono
 ·rw [efz]
  refine (pm.map (·.1)).nodup_iff.mpr (List.nodup_cons.mpr ⟨fun q => ?_, X.nd⟩)
  obtain ⟨p, hp, e⟩ := List.mem_map.mp q
  have h1 := Heap.lt_size (X.nw p hp).1
  have h2 : p.1 = a := e
  rw [h2] at h1
  exact Nat.lt_irrefl _ (Nat.lt_of_lt_of_le h1 ha)
theorem zJn {h h' : Heap} {a : Addr} {o : Obj} (R : Rep w F ads st h) (grow : ∀ b o, h.get? b = some o → h'.get? b = some o) (ho : h'.get? a = some o) (ha : h.objs.size ≤ a) : Rep w F (wa ads (⟨[], [(a, o)]⟩ : Wd)) st h' := by
 obtain ⟨oL, hL⟩ := zRb R
 obtain ⟨m, news, lw, X⟩ := R
 have old : ∀ b o, h.get? b = some o → b ≠ a := fun b o e q => by
  have := Heap.lt_size e
  rw [q] at this
  exact Nat.lt_irrefl _ (Nat.lt_of_lt_of_le this ha)
 refine zJB X ⟨X.fr.ns.at' fun o q => grow _ _ q, fun b o q => grow _ _ (X.fr.keep b o q), X.fr.above⟩ (fun p hp => ?_) ha
 rcases List.mem_cons.mp hp with rfl | hp
 ·refine ⟨ho, fun e => old _ _ hL e.symm, ?_⟩
  cases q : F.h₀.get? a with
  | none => rfl
  | some o' => exact absurd rfl (old _ _ (X.fr.keep _ _ q))
 ·exact ⟨grow _ _ (X.nw p hp).1, (X.nw p hp).2⟩
theorem zSQ (ads : Wd) (a : Addr) (o : Obj) : (a, o) ∈ (wa ads (⟨[], [(a, o)]⟩ : Wd)).fz := List.mem_append_right _ (.head _)
theorem zEi {vs : List Value} {ds : List PyData} {a : Addr} {n : Nat} (hl : ds.length ≤ sizeLine) (f : ∀ d ∈ ds, Fits d) (r : RdL F.B ads.fz vs ds) : Den F.B (wa ads (⟨[], [(a, zES vs n)]⟩ : Wd)) (.dat (.list ds)) (.ref a) :=
 ⟨⟨a, rfl⟩, .list hl f, .list (.inr (zSQ ads a _)) rfl rfl (by show RdL F.B (wa ads (⟨[], [(a, zES vs n)]⟩ : Wd)).fz vs.toArray.toList ds; rw [List.toList_toArray]; exact r.mono fun p hp => List.mem_append_left _ hp)⟩
noncomputable abbrev seqO (o : Option SO) : Option (Bool × List SV) := match o with
 | none => none
 | some x => match x with
  | .list xs => some (true, xs)
  | .tup xs => some (false, xs)
  | _ => none
theorem zAU {α : Type} {c : α} {P : Prop} (h : none = some c) : P := nomatch h
theorem zMQ {o : Option SO} {b : Bool} {xs : List SV} (h : seqO o = some (b, xs)) : (b = true ∧ o = some (.list xs)) ∨ (b = false ∧ o = some (.tup xs)) := by
 cases o with
 | none => exact zAU h
 | some x => cases x <;> first | exact zAU h | (cases h; first | exact .inl ⟨rfl, rfl⟩ | exact .inr ⟨rfl, rfl⟩)
noncomputable def zHm (st : St) (v : SV) : Option (Bool × List SV) := match v with
 | .obj i => seqO st.led[i]?
 | .dat d => match d with
  | .list ds => some (true, ds.map svOf)
  | .tuple ds => some (false, ds.map svOf)
  | _ => none
 | _ => none
noncomputable def SeqAt (h : Heap) (b : Bool) (a : Addr) (vs : List Value) : Prop := match b with
 | true => h.IsList a vs.toArray
 | false => h.IsTuple a vs.toArray
theorem Got.look {B : Heap} {fz : List (Addr × Obj)} {h : Heap} {a : Addr} {o : Obj} (g : Got B fz a o) (l : Look B fz h) : h.get? a = some o := g.elim (l.1 _ _) (l.2 _)
theorem zFW {ds : List PyData} (f : Fits (.list ds)) : ds.length ≤ sizeLine ∧ ∀ d ∈ ds, Fits d := by cases f with | list a b => exact ⟨a, b⟩
theorem zPj {ds : List PyData} (f : Fits (.tuple ds)) : ds.length ≤ sizeLine ∧ ∀ d ∈ ds, Fits d := by cases f with | tuple a b => exact ⟨a, b⟩
theorem zBD {b : Bool} {v : SV} {u : Value} {xs : List SV} (ok : FmOk C F) (R : Rep w F ads st s.heap) (d : Den F.B ads v u) (e : zHm st v = some (b, xs)) : ∃ a vs, u = .ref a ∧ SeqAt s.heap b a vs ∧ DenL F.B ads xs vs := by
 have lk0 := zDM ok R
 cases v <;> first | exact zAU e | skip
 ·rename_i i
  rcases zMQ e with ⟨rfl, hi⟩ | ⟨rfl, hi⟩
  ·obtain ⟨m, news, lw, pre, ps, post, a, dd, X, h1, h2, h3, h4⟩ := zDP R hi
   obtain ⟨p, hp, rfl⟩ := d
   rw [h2] at hp; cases hp
   obtain ⟨vs, n, D, rfl⟩ := h3.inv
   ·exact ⟨a, vs, rfl, ⟨_, (X.nw (a, zES vs n) (by rw [h1]; simp)).1, rfl, n, rfl⟩, D⟩
  ·obtain ⟨m, news, lw, pre, ps, post, a, dd, X, h1, h2, h3, h4⟩ := zDP R hi
   obtain ⟨p, hp, rfl⟩ := d
   rw [h2] at hp; cases hp
   obtain ⟨vs, n, D, rfl⟩ := h3.inv
   ·exact ⟨a, vs, rfl, ⟨_, (X.nw (a, tupO vs n) (by rw [h1]; simp)).1, rfl, n, rfl⟩, D⟩
 ·rename_i d'
  cases d' <;> first | exact zAU e | skip
  ·cases e
   obtain ⟨⟨a, rfl⟩, f, r⟩ := d
   obtain ⟨f1, f2⟩ := zFW f
   cases r with
   | list g c q r => exact ⟨a, _, rfl, ⟨_, g.look lk0, c, _, by rw [q]⟩, zNs f2 r⟩
  ·cases e
   obtain ⟨⟨a, rfl⟩, f, r⟩ := d
   obtain ⟨f1, f2⟩ := zPj f
   cases r with
   | tuple g c q r => exact ⟨a, _, rfl, ⟨_, g.look lk0, c, _, by rw [q]⟩, zNs f2 r⟩
noncomputable def frz1 : SV → Option PyData
 | .none => some .none
 | .bool b => some (.bool b)
 | .int i => some (.int i)
 | .str s => some (.str s)
 | .sg c _ _ => some (.str (sgS c))
 | .dat d => some d
 | _ => none
noncomputable def frzs : List SV → Option (List PyData)
 | [] => some []
 | x :: xs => match frz1 x with
  | some d => match frzs xs with
   | some ds => some (d :: ds)
   | none => none
  | none => none
theorem zNj (d : PyData) : frz1 (svOf d) = some d := by cases d <;> rfl
theorem zGa {B : Heap} {W : Wd} {x : SV} {v : Value} {d : PyData} (dn : Den B W x v) (e : frz1 x = some d) : Fits d ∧ Rd B W.fz v d := by
 cases x with
 | none => cases e; cases dn; exact ⟨.none, .none⟩
 | bool b => cases e; cases dn; exact ⟨.bool _, .bool _⟩
 | int i => cases e; obtain ⟨t, rfl⟩ := dn; exact ⟨.int _, .int _ _⟩
 | str s => cases e; obtain ⟨⟨t, rfl⟩, l⟩ := dn; exact ⟨.str l, .str _ _⟩
 | sg c es fs => cases e; obtain ⟨⟨t, rfl⟩, _⟩ := dn; exact ⟨.str (by rw [show (sgS c).length = 1 from rfl, sizeLine_eq]; lia), .str _ _⟩
 | dat d => cases e; obtain ⟨_, f, r⟩ := dn; exact ⟨f, r⟩
 | _ => cases e
theorem zDt {B : Heap} {W : Wd} : ∀ {xs : List SV} {vs : List Value} {ds : List PyData}, DenL B W xs vs → frzs xs = some ds → (∀ d ∈ ds, Fits d) ∧ RdL B W.fz vs ds ∧ ds.length = xs.length
 | _, _, _, .nil, e => by cases e; exact ⟨(fun _ h => by cases h), .nil, rfl⟩
 | _, _, _, .cons dx dr, e => by
  unfold frzs at e
  split at e
  ·rename_i d hd
   split at e
   ·rename_i ds hds
    cases e
    obtain ⟨a1, a2⟩ := zGa dx hd
    obtain ⟨b1, b2, b3⟩ := zDt dr hds
    exact ⟨fun y hy => by
     rcases List.mem_cons.mp hy with rfl | hy
     ·exact a1
     ·exact b1 y hy, .cons a2 b2, by simp [b3]⟩
   ·cases e
  ·cases e
noncomputable def zAt (st : St) (v : SV) (k : List PyData → Prop) : Prop := match v with
 | .dat d => match d with
  | .list ds => k ds
  | _ => False
 | .obj i => zHu st.led[i]? fun xs => zBW (frzs xs) fun ds => ds.length ≤ sizeLine ∧ k ds
 | _ => False
theorem zBf {v : SV} {u : Value} {k : List PyData → Prop} (ok : FmOk C F) (R : Rep w F ads st s.heap) (d : Den F.B ads v u) (e : zAt st v k) : ∃ a vs ds, u = .ref a ∧ s.heap.IsList a vs.toArray ∧ (∀ d ∈ ds, Fits d) ∧ RdL F.B ads.fz vs ds ∧ ds.length ≤ sizeLine ∧ k ds := by
 cases v <;> first | exact False.elim e | skip
 rotate_left
 ·rename_i d'
  cases d' <;> first | exact False.elim e | skip
  ·rename_i ds
   obtain ⟨⟨a, rfl⟩, f, r⟩ := d
   obtain ⟨f1, f2⟩ := zFW f
   cases r with
   | list g c q r => exact ⟨a, _, ds, rfl, ⟨_, g.look (zDM ok R), c, _, by rw [q]⟩, f2, r, f1, e⟩
 ·rename_i i
  obtain ⟨xs, hi, e⟩ := zCl e
  obtain ⟨ds, hds, e⟩ := zAM e
  obtain ⟨a, vs, hu, hs, D⟩ := zBD (b := true) (xs := xs) ok R d (congrArg seqO hi)
  obtain ⟨b1, b2, b3⟩ := zDt D hds
  exact ⟨a, vs, ds, hu, hs, b1, b2, e.1, e.2⟩
theorem zCk {B : Heap} {fz : List (Addr × Obj)} : ∀ {vs : List Value} {ds : List PyData}, RdL B fz vs ds → vs.length = ds.length := by
 intro vs
 induction vs with
 | nil => intro ds r; cases r; rfl
 | cons v vs ih => intro ds r; cases r with | cons a r => exact congrArg (· + 1) (ih r)
theorem zLB {B : Heap} {fz : List (Addr × Obj)} : ∀ {vs us : List Value} {ds es : List PyData}, RdL B fz vs ds → RdL B fz us es → RdL B fz (vs ++ us) (ds ++ es) := by
 intro vs
 induction vs with
 | nil => intro us ds es r h; cases r; exact h
 | cons v vs ih => intro us ds es r h; cases r with | cons a r => exact .cons a (ih r h)
theorem zRi {B : Heap} {fz : List (Addr × Obj)} : ∀ {vs : List Value} {ds : List PyData}, RdL B fz vs ds → ∀ i : Nat, (vs[i]? = none ∧ ds[i]? = none) ∨ ∃ v d, vs[i]? = some v ∧ ds[i]? = some d ∧ Rd B fz v d := by
 intro vs
 induction vs with
 | nil => intro ds r i; cases r; exact .inl ⟨rfl, rfl⟩
 | cons v vs ih =>
  intro ds r i
  cases r with
  | cons a r =>
   cases i with
   | zero => exact .inr ⟨_, _, rfl, rfl, a⟩
   | succ i => exact ih r i
theorem zEe {B : Heap} {fz : List (Addr × Obj)} {vs : List Value} {ds : List PyData} (r : RdL B fz vs ds) : ∀ l : List Nat, RdL B fz (l.filterMap (vs[·]?)) (l.filterMap (ds[·]?))
 | [] => .nil
 | i :: l => by
  rcases zRi r i with ⟨a, b⟩ | ⟨v, d, a, b, c⟩
  ·rw [List.filterMap_cons, List.filterMap_cons, a, b]; exact zEe r l
  ·rw [List.filterMap_cons, List.filterMap_cons, a, b]; exact .cons c (zEe r l)
theorem zLa {A : Around} {x y : SV} {a b : Value} {k : List PyData → Prop} {E : Value → Shared → Prop} {Q : Value → Shared → Prop} (ok : FmOk C F) (R : Rep w F ads st s.heap) (dx : Den F.B ads x a) (dy : Den F.B ads y b)
  (h : zAt st x fun ds => zAt st y fun es => ds.length + es.length ≤ sizeLine ∧ k (ds ++ es))
  (hQ : ∀ ds more v s', k ds → Rep w F (wa ads more) st s'.heap → Nx F s s' → Den F.B (wa ads more) (.dat (.list ds)) v → Q v s') : wpAny (model prog w) A (binaryOp .Add a b) Q E s := by
 obtain ⟨l1, vs, ds, rfl, hl1, f1, r1, _, h⟩ := zBf ok R dx h
 obtain ⟨l2, us, es, rfl, hl2, f2, r2, _, hle, h⟩ := zBf ok R dy h
 obtain ⟨m, news, lw, X⟩ := R
 refine add_lists X.fr X.nw hl1 hl2 (fun h' F' N' => ?_) (by rw [zCk r1, zCk r2]; exact hle)
 exact hQ _ ⟨[], [(s.heap.objs.size, zES (vs ++ us) 0)]⟩ _ _ h (zJB X F' N' (Nat.le_refl _)) (Nx.of_gens rfl rfl rfl) (zEi (by simpa using hle) (fun d hd => (List.mem_append.mp hd).elim (f1 d) (f2 d)) (zLB r1 r2))
theorem zCH {i : Nat} {xs : List SV} {h : Heap} (R : Rep w F ads st h) (hi : st.led[i]? = some (.list xs)) {v : Value} (d : Den F.B ads (.obj i) v) :
  ∃ a vs n, v = .ref a ∧ h.get? a = some (zES vs n) ∧ DenL F.B ads xs vs ∧ ∀ h' xs' vs' n', h'.get? a = some (zES vs' n') → (∀ b, b ≠ a → ∀ o, h.get? b = some o → h'.get? b = some o) → DenL F.B ads xs' vs' →
   Rep w F ads { st with led := st.led.set i (.list xs') } h' := by
 obtain ⟨m, news, lw, X⟩ := R
 obtain ⟨pre, ps, post, a, dd, h1, h2, h3, h4⟩ := X.led.at hi
 obtain ⟨p, hp, rfl⟩ := d
 rw [h2] at hp; cases hp
 obtain ⟨vs, n, D, rfl⟩ := h3.inv
 ·exact ⟨a, vs, n, rfl, (X.nw (a, zES vs n) (by rw [h1]; simp)).1, D, fun h' xs' vs' n' ho hs D' => zCj X h1 (h4 _ _ (One.list (n := n') D')) ho hs⟩
noncomputable def idxP (xs : List SV) (i : Int) (x : SV) : Prop := ∃ j, seqIndex? i xs.length = some j ∧ xs[j]? = some x ∧ -4611686018427387904 ≤ i ∧ i < 4611686018427387904
theorem zNS {o i : Expr} {v x : SV} {u : Value} {b : Bool} {xs : List SV} {k : Int} {t : Tok} {A : Around} {E : Value → Shared → Prop} {Q : Value → Shared → Prop} (hs : ∀ l, subscripted i false (.ref l) (.int k t) = operate [.ref l, .int k t] (getItem (.ref l) (.int k t))) (ok : FmOk C F) (R : Rep w F ads st s.heap) (d : Den F.B ads v u)
  (e : zHm st v = some (b, xs)) (h : idxP xs k x) (hQ : ∀ y, Den F.B ads x y → Q y s) : wpAny (model prog w) A (subscriptTail o i u (.int k t)) Q E s := by
 obtain ⟨a, vs, rfl, hsq, D⟩ := zBD ok R d e
 obtain ⟨j, hj, hx, h1, h2⟩ := h
 obtain ⟨y, hy, dy⟩ := D.get hx
 rw [D.length] at hj
 cases b with
 | true =>
  have hl : s.heap.IsList a vs.toArray := hsq
  refine tail_any hl.typeIs slot_list_getitem.lookup ?_ (hs a)
  unfold seqIndex? at hj
  by_cases hk : k < 0
  ·rw [if_pos hk] at hj
   dsimp only at hj
   split at hj
   ·rename_i hc
    simp only [Bool.and_eq_true, decide_eq_true_eq] at hc
    cases hj
    exact wpAny_getItem_list_neg hl hk (by simp; lia) (by lia) (by simpa using hy) (hQ y dy)
   ·cases hj
  ·rw [if_neg hk] at hj
   dsimp only at hj
   split at hj
   ·cases hj
    exact wpAny_getItem_list hl (by lia) (by lia) (by simpa using hy) (hQ y dy)
   ·cases hj
 | false =>
  have hl : IsTup s.heap a vs.toArray := hsq
  exact tail_any hl.typeIs slot_tuple_getitem.lookup (PyProof.Rows.getItem_tuple hl (by lia) (by lia) (by simpa using hj) (by simpa using hy) (hQ y dy)) (hs a)
noncomputable def slD (ds : List PyData) (lo hi : Option Int) : List PyData := (sliceRange (sliceBounds lo hi none ds.length).1 (sliceBounds lo hi none ds.length).2.1 (sliceBounds lo hi none ds.length).2.2).filterMap (ds[·]?)
theorem zRS {ds : List PyData} {lo hi : Option Int} {d : PyData} (h : d ∈ slD ds lo hi) : d ∈ ds := by
 unfold slD at h
 obtain ⟨i, _, hi⟩ := List.mem_filterMap.mp h
 exact List.mem_of_getElem? hi
noncomputable def PartV : Option Int → Value → Prop
 | none, v => v = .none
 | some i, v => ∃ t, v = .int i t
theorem PartV.is {l : Option Int} {v : Value} (p : PartV l v) : IsPart v l := by
 cases l with
 | none => cases p; exact .none
 | some i => obtain ⟨t, rfl⟩ := p; exact .int _ _
theorem zMN {o : Expr} {lo hi : Option Expr} {q : Pos} {ds : List PyData} {v vl vu : Value} {l u : Option Int} {A : Around} {E : Value → Shared → Prop} {Q : Value → Shared → Prop} (ok : FmOk C F) (R : Rep w F ads st s.heap) (d : Den F.B ads (.dat (.list ds)) v) (pl : PartV l vl) (pu : PartV u vu)
  (hQ : ∀ more r s', Rep w F (wa ads more) st s'.heap → Nx F s s' → Den F.B (wa ads more) (.dat (.list (slD ds l u))) r → Q r s') :
  wpAny (model prog w) A (subscriptTail o (.Slice lo hi none q) v (.ref s.heap.objs.size)) Q E { s with heap := s.heap.push { cls := .type "slice", data := .fields #[vl, vu, .none] } } := by
 obtain ⟨⟨a, rfl⟩, f, r⟩ := d
 obtain ⟨f1, f2⟩ := zFW f
 cases r with
 | list g c e r =>
  rename_i ob vs n
  have hl0 : s.heap.IsList a vs := ⟨_, g.look (zDM ok R), c, _, e⟩
  have hl : (s.heap.push { cls := .type "slice", data := .fields #[vl, vu, .none] }).IsList a vs := hl0.push _
  have len : vs.size = ds.length := by rw [← zCk r]; simp
  refine tail_any (s := { s with heap := s.heap.push { cls := .type "slice", data := .fields #[vl, vu, .none] } }) hl.typeIs slot_list_getitem.lookup
   (wpAny_getItem_list_slice hl (Heap.IsSliceOf.new ..) pl.is pu.is .none (by simp) ?_ (by rw [len]; exact f1)) (by with_unfolding_all rfl)
  have e1 : (slicePick vs l u none) = (((sliceRange (sliceBounds l u none ds.length).1 (sliceBounds l u none ds.length).2.1 (sliceBounds l u none ds.length).2.2).filterMap (vs.toList[·]?))).toArray := by
   unfold slicePick; rw [len]; congr 1; congr 1; funext i; simp
  rw [e1]
  refine hQ ⟨[], [((s.heap.push { cls := .type "slice", data := .fields #[vl, vu, .none] }).objs.size, _)]⟩ _ _ (zJn R (fun b o q => Heap.get?_push_of_some _ (Heap.get?_push_of_some _ q)) (Heap.get?_push_size _ rfl) (by rw [Heap.size_push]; lia)) (Nx.of_gens rfl rfl rfl) ?_
  refine zEi ?_ (fun d hd => f2 d (zRS hd)) (zEe r _)
  have := slicePick_size_le vs l u none
  rw [e1, len] at this
  have e2 := zCk (zEe r (sliceRange (sliceBounds l u none ds.length).1 (sliceBounds l u none ds.length).2.1 (sliceBounds l u none ds.length).2.2))
  have e3 : (slD ds l u).length ≤ ds.length := by
   show ((sliceRange (sliceBounds l u none ds.length).1 (sliceBounds l u none ds.length).2.1 (sliceBounds l u none ds.length).2.2).filterMap (ds[·]?)).length ≤ _
   rw [← e2]; simpa using this
  lia
noncomputable abbrev zPn {α : Type} (a : Option α) (b : Option (List α)) : Option (List α) := match a with
 | none => none
 | some x => match b with
  | none => none
  | some y => some (x :: y)
theorem zLT {α : Type} {a : Option α} {b : Option (List α)} {c : List α} (h : zPn a b = some c) : ∃ x y, a = some x ∧ b = some y ∧ c = x :: y := by
 cases a with
 | none => exact zAU h
 | some x => cases b with
  | none => exact zAU h
  | some y => exact ⟨x, y, rfl, rfl, (Option.some.inj h).symm⟩
noncomputable def frzD : Nat → List SO → SV → Option PyData
 | 0, _, _ => none
 | n + 1, led, v => match v with
  | .obj i => match seqO led[i]? with
   | none => none
   | some bx => match bx with
    | (b, xs) => (xs.foldr (fun x acc => zPn (frzD n led x) acc) (some [])).map (match b with | true => .list | false => .tuple)
  | v => frz1 v
theorem zDu (ok : FmOk C F) (R : Rep w F ads st s.heap) : ∀ (n : Nat) (v : SV) (u : Value) (d : PyData), Den F.B ads v u → frzD n st.led v = some d → ∃ as, Reads s.heap u d as
 | 0, _, _, _, _, h => by cases h
 | n + 1, v, u, d, dn, h => by
  have all : ∀ (xs : List SV) (vs : List Value) (ds : List PyData), DenL F.B ads xs vs → xs.foldr (fun x acc => zPn (frzD n st.led x) acc) (some []) = some ds → ∃ as, ReadsAll s.heap vs ds as := by
   intro xs vs ds D
   induction D generalizing ds with
   | nil => intro h; cases h; exact ⟨_, .nil⟩
   | cons dx _ ih =>
    intro h
    obtain ⟨d', ds', hd, hds, rfl⟩ := zLT h
    obtain ⟨a1, r1⟩ := zDu ok R n _ _ _ dx hd
    obtain ⟨a2, r2⟩ := ih _ hds
    exact ⟨_, .cons r1 r2⟩
  have lk0 := zDM ok R
  have plain : frz1 v = some d → ∃ as, Reads s.heap u d as := fun h => (zGa dn h).2.reads lk0
  cases v <;> first | exact plain h | skip
  rename_i i
  replace h : (match seqO st.led[i]? with
   | none => none
   | some bx => match bx with
    | (b, xs) => (xs.foldr (fun x acc => zPn (frzD n st.led x) acc) (some [])).map (match b with | true => PyData.list | false => PyData.tuple)) = some d := h
  cases hi : seqO st.led[i]? with
  | none => rw [hi] at h; exact zAU h
  | some bx =>
   rw [hi] at h
   obtain ⟨b, xs⟩ := bx
   obtain ⟨ds, g, rfl⟩ := Option.map_eq_some_iff.mp h
   obtain ⟨a, vs, rfl, hs, D⟩ := zBD ok R dn hi
   obtain ⟨as, r⟩ := all xs vs ds D g
   cases b with
   | true =>
    obtain ⟨o, h1, h2, m, h3⟩ := hs
    exact ⟨_, .list h1 h2 h3 (by simpa using r)⟩
   | false =>
    obtain ⟨o, h1, h2, m, h3⟩ := hs
    exact ⟨_, .tuple h1 h2 h3 (by simpa using r)⟩
noncomputable def eqD (n : Nat) (st : St) (x y : SV) (k : Bool → Prop) : Prop := zBW (frzD 4 st.led x) fun d => zBW (frzD 4 st.led y) fun e => 8 ≤ n ∧ d.canLay0 = true ∧ e.canLay0 = true ∧ min d.depth e.depth ≤ 60 ∧ k (d.eqv e)
theorem zIO {n : Nat} {ne : Bool} {x y : SV} {a b : Value} {k : Bool → Prop} {A : Around} {E : Value → Shared → Prop} {Q : Value → Shared → Prop} (ok : FmOk C F) (hu : A.units + 8 * (n + 1) < cLine) (R : Rep w F ads st s.heap) (dx : Den F.B ads x a) (dy : Den F.B ads y b) (h : eqD n st x y k)
  (hQ : ∀ c, k c → Q (.bool (if ne then !c else c)) s) : wpAny (model prog w) A (compareOp (if ne then .NotEq else .Eq) a b) Q E s := by
 obtain ⟨d, hd, h⟩ := zAM h
 obtain ⟨e, he, h1, h2, h3, h4, h5⟩ := zAM h
 obtain ⟨as, ra⟩ := zDu ok R 4 _ _ _ dx hd
 obtain ⟨bs, rb⟩ := zDu ok R 4 _ _ _ dy he
 cases ne with
 | true => exact SeqAt.compareNe_reads ra rb h2 h3 (by lia) (hQ _ h5)
 | false => exact SeqAt.compareEq_reads ra rb h2 h3 (by lia) (hQ _ h5)
theorem zNC {A : Around} {v : SV} {u : Value} {b : Bool} {xs : List SV} {E : Value → Shared → Prop} {Q : Value → Shared → Prop} (ok : FmOk C F) (R : Rep w F ads st s.heap) (d : Den F.B ads v u) (e : zHm st v = some (b, xs)) (hl : xs.length ≤ sizeLine)
  (hQ : ∀ t t', Q (.int xs.length t) { s with toks := t' }) : wpAny (model prog w) A (call (.builtin "len") [u]) Q E s := by
 obtain ⟨a, vs, rfl, hsq, D⟩ := zBD ok R d e
 have e1 : (vs.toArray.size : Int) = xs.length := by rw [D.length]; simp
 rw [sizeLine_eq] at hl
 cases b with
 | true => exact Calls.call_len_list hsq (by rw [e1]; lia) (by rw [e1]; exact hQ _ _)
 | false => exact PyProof.Rows.len_tuple hsq (by rw [e1]; lia) (by rw [e1]; exact hQ _ _)
theorem zEM {A : Around} {i : Nat} {xs : List SV} {x : SV} {u y : Value} {E : Value → Shared → Prop} {Q : Value → Shared → Prop} (R : Rep w F ads st s.heap) (d : Den F.B ads (.obj i) u) (hi : st.led[i]? = some (.list xs)) (dx : Den F.B ads x y) (hl : xs.length ≤ sizeLine)
  (hQ : ∀ h', Rep w F ads { st with led := st.led.set i (.list (xs ++ [x])) } h' → Q .none { s with heap := h' }) : wpAny (model prog w) A (call (.builtin "list.append") [u, y]) Q E s := by
 obtain ⟨a, vs, n, rfl, ho, D, upd⟩ := zCH R hi d
 have hlv : vs.toArray.size ≤ sizeLine := by have := D.length; simp; lia
 refine wpAny_call_entry slot_list_append (T := "list") ⟨_, ho, rfl⟩ entry_list_append ?_ (args_list_append _ _)
 show wpAny _ _ (updateSeq a (·.push y) >>= fun _ => ret .none) _ _ s
 refine wpAny_bind ?_
 refine wpAny_updateSeq ho rfl (wpAny_pure ⟨.none, rfl, hQ _ ?_⟩) hlv (by simp; simpa using hlv)
 have ho' := Heap.get?_update_self (Obj.mapSeq (·.push y)) ho rfl
 exact upd _ (xs ++ [x]) (vs ++ [y]) n.succ (by rw [ho']; simp [Obj.mapSeq]) (fun b hb o q => (Heap.get?_update_other _ _ (Ne.symm hb)).trans q) (D.append (.cons dx .nil))
theorem DenL.set {B : Heap} {G : Wd} {x : SV} {v : Value} (d : Den B G x v) : ∀ {xs : List SV} {vs : List Value} (n : Nat), DenL B G xs vs → DenL B G (xs.set n x) (vs.set n v)
 | _, _, _, .nil => .nil
 | _, _, 0, .cons _ r => .cons d r
 | _, _, n + 1, .cons e r => .cons e (DenL.set d n r)
theorem zKv {A : Around} {i : Nat} {xs : List SV} {x : SV} {u y : Value} {k : Int} {t : Tok} {E : Value → Shared → Prop} {Q : Unit → Shared → Prop} (R : Rep w F ads st s.heap) (d : Den F.B ads (.obj i) u) (hi : st.led[i]? = some (.list xs)) (h0 : 0 ≤ k) (hn : k < (xs.length : Int)) (hl : xs.length ≤ sizeLine) (dx : Den F.B ads x y)
  (hQ : ∀ h', Rep w F ads { st with led := st.led.set i (.list (xs.set k.toNat x)) } h' → Q () { s with heap := h' }) : wpAny (model prog w) A (setItem u (.int k t) y) Q E s := by
 obtain ⟨l, vs, n, rfl, ho, D, upd⟩ := zCH R hi d
 have hL : s.heap.IsList l vs.toArray := ⟨_, ho, rfl, n, rfl⟩
 have eD := D.length
 have hfit : k < 2 ^ 63 := by rw [sizeLine_eq] at hl; lia
 unfold setItem
 try with_reducible refine wpAny_holding ?_
 first | refine wpAny_bind (wpAny_pure ?_) | skip
 refine wpAny_bind (wpAny_sequenceKey hL.typeIs (by decide) ?_)
 refine wpAny_bind (wpAny_callSpecial?_slot (name := Str.ofString "__setitem__") hL.typeIs slot_list_setitem
  (wpAny_call_entry slot_list_setitem hL.typeIs entry_list_setitem ?_ (args_list_setitem _ _ _)))
 show wpAny _ _ (Builtin.List.listSubscript? (.int k t) >>= _) _ _ s
 refine wpAny_bind (wpAny_listSubscript_int (fitsIndex_of h0 hfit) ?_)
 clear hfit
 obtain ⟨j, rfl⟩ := Int.eq_ofNat_of_zero_le h0
 have hj : j < vs.toArray.size := by simp; lia
 have hx' : vs.toArray[j]? = some vs.toArray[j] := Array.getElem?_eq_getElem hj
 show wpAny _ _ ((seqItemAt l j >>= fun r => pure (r.map (j, ·))) >>= _) _ _ s
 refine wpAny_bind (wpAny_bind (wpAny_seqItemAt ho rfl (wpAny_pure ?_)))
 rw [hx']
 show wpAny _ _ (setSeqItemAt l j y >>= _) _ _ s
 refine wpAny_bind (wpAny_setSeqItemAt ho rfl ?_)
 have fin : Q () { s with heap := s.heap.update l (Obj.mapSeq (·.setIfInBounds j y)) } := by
  have ho' := Heap.get?_update_self (Obj.mapSeq (·.setIfInBounds j y)) ho rfl
  refine hQ _ (upd _ (xs.set j x) (vs.set j y) n (by rw [ho']; simp [Obj.mapSeq]) (fun b hb o q => (Heap.get?_update_other _ _ (Ne.symm hb)).trans q) (DenL.set dx j D))
 first
  | exact wpAny_bind (wpAny_pure (wpAny_pure ⟨.none, rfl, wpAny_pure fin⟩))
  | exact wpAny_pure ⟨.none, rfl, wpAny_pure fin⟩
theorem zGe {α : Type} : ∀ (us : List α) (y : α), (us ++ [y]).eraseIdx us.length = us
 | [], _ => rfl
 | u :: us, y => congrArg (List.cons u) (zGe us y)
theorem zMd {A : Around} {i : Nat} {xs : List SV} {x : SV} {u : Value} {E : Value → Shared → Prop} {Q : Value → Shared → Prop} (R : Rep w F ads st s.heap) (d : Den F.B ads (.obj i) u) (hi : st.led[i]? = some (.list (xs ++ [x]))) (hl : xs.length < sizeLine)
  (hQ : ∀ h' y, Rep w F ads { st with led := st.led.set i (.list xs) } h' → Den F.B ads x y → Q y { s with heap := h' }) : wpAny (model prog w) A (call (.builtin "list.pop") [u]) Q E s := by
 obtain ⟨a, vs, n, rfl, ho, D, upd⟩ := zCH R hi d
 obtain ⟨us, y, rfl, D1, dy⟩ : ∃ us y, vs = us ++ [y] ∧ DenL F.B ads xs us ∧ Den F.B ads x y := by
  clear hi upd ho hl hQ
  generalize hz : xs ++ [x] = zs at D
  induction D generalizing xs with
  | nil => cases xs <;> cases hz
  | cons dx dr ih =>
   cases xs with
   | nil =>
    cases hz
    cases dr
    exact ⟨[], _, rfl, .nil, dx⟩
   | cons z zs =>
    cases hz
    obtain ⟨us, y, rfl, a, b⟩ := ih rfl
    exact ⟨_ :: us, y, rfl, .cons dx a, b⟩
 have hlv : (us ++ [y]).toArray.size ≤ sizeLine := by have := D1.length; simp; lia
 have hsz : (us ++ [y]).toArray.size - 1 = us.length := by simp
 refine call_meets PySem.F.slot_list_pop (T := "list") ⟨_, ho, rfl⟩ PySem.F.entry_list_pop (PySem.F.args_list_pop_1 _) (MeetsSeq.list_pop_last a (us ++ [y]).toArray n y (by rw [hsz]; simp) hlv) ⟨ho, ?_⟩
 refine hQ _ y (upd _ xs us (n + 1) ?_ (fun b hb o q => (Heap.get?_update_other _ _ (Ne.symm hb)).trans q) D1) dy
 rw [Heap.get?_update_self (Obj.mapSeq fun xs => xs.eraseIdxIfInBounds ((us ++ [y]).toArray.size - 1)) ho rfl, hsz]
 have e1 := zGe us y
 simp [Obj.mapSeq, Array.eraseIdxIfInBounds, e1]
end
mutual
/-- a value taken as data that never changes again -/
inductive Frz (led : List SO) : SV → PyData → Prop
 | none : Frz led .none .none
 | bool (b) : Frz led (.bool b) (.bool b)
 | int (i) : Frz led (.int i) (.int i)
 | str (s) : Frz led (.str s) (.str s)
 | sg (c es fs) : Frz led (.sg c es fs) (.str (sgS c))
 | dat (d) : Frz led (.dat d) d
 | list {i xs ds} : led[i]? = some (.list xs) → xs.length ≤ sizeLine → FrzL led xs ds → Frz led (.obj i) (.list ds)
 | tup {i xs ds} : led[i]? = some (.tup xs) → xs.length ≤ sizeLine → FrzL led xs ds → Frz led (.obj i) (.tuple ds)
inductive FrzL (led : List SO) : List SV → List PyData → Prop
 | nil : FrzL led [] []
 | cons {x d xs ds} : Frz led x d → FrzL led xs ds → FrzL led (x :: xs) (d :: ds)
end
section
variable {w : World} {C : Cf} {F : Fm} {ads : Wd} {s : Shared} {st : St}
theorem FrzL.length {led : List SO} : ∀ {xs : List SV} {ds : List PyData}, FrzL led xs ds → ds.length = xs.length := by
 intro xs
 induction xs with
 | nil => intro ds r; cases r; rfl
 | cons x xs ih => intro ds r; cases r with | cons _ r => exact congrArg (· + 1) (ih r)
theorem LedR.atI {P : Params} {B : Heap} {G : Wd} : ∀ {ads : List (Addr × Addr)} {led : List SO} {news : List (Addr × Obj)} {i : Nat} {so : SO}, LedR P B G ads led news → led[i]? = some so → ∃ a d ps, ads[i]? = some (a, d) ∧ One P B G so a d ps ∧ ∀ p ∈ ps, p ∈ news := by
 intro ads led news i so r h
 obtain ⟨pre, ps, post, a, d, h1, h2, h3, _⟩ := r.at h
 exact ⟨a, d, ps, h2, h3, fun p hp => by rw [h1]; exact List.mem_append_left _ (List.mem_append_right _ hp)⟩
noncomputable def zHV (P : Params) (B : Heap) (G : Wd) (led : List SO) (S : List (Addr × Obj)) : Prop := ∀ (i : Nat) (so : SO), led[i]? = some so → so = .gone ∨ ∃ a d ps, G.ads[i]? = some (a, d) ∧ One P B G so a d ps ∧ ∀ p ∈ ps, p ∈ S
mutual
theorem Frz.rdAt {P : Params} {B : Heap} {G : Wd} {led : List SO} {S : List (Addr × Obj)} (X : zHV P B G led S) : ∀ {x : SV} {d : PyData} {v : Value}, Frz led x d → Den B G x v → Fits d ∧ Rd B (S ++ G.fz) v d
 | _, _, _, .none, e => by cases e; exact ⟨.none, .none⟩
 | _, _, _, .bool b, e => by cases e; exact ⟨.bool _, .bool _⟩
 | _, _, _, .int i, e => by obtain ⟨t, rfl⟩ := e; exact ⟨.int _, .int _ _⟩
 | _, _, _, .str s, e => by obtain ⟨⟨t, rfl⟩, l⟩ := e; exact ⟨.str l, .str _ _⟩
 | _, _, _, .sg c es fs, e => by obtain ⟨⟨t, rfl⟩, _⟩ := e; exact ⟨.str (by rw [zCG, sizeLine_eq]; lia), .str _ _⟩
 | _, _, _, .dat d, e => by
  obtain ⟨_, f, r⟩ := e
  exact ⟨f, r.mono fun p hp => List.mem_append_right _ hp⟩
 | _, _, _, .list hi hl fl, e => by
  rcases X _ _ hi with q | ⟨a, dd, ps, h2, h3, h4⟩
  ·cases q
  obtain ⟨p, hp, rfl⟩ := e
  rw [h2] at hp; cases hp
  obtain ⟨vs, n, D, rfl⟩ := h3.inv
  ·obtain ⟨f, r⟩ := FrzL.rdAt X fl D
   exact ⟨.list (by rw [fl.length]; exact hl) f, .list (.inr (List.mem_append_left _ (h4 _ (.head _)))) rfl rfl (by simpa using r)⟩
 | _, _, _, .tup hi hl fl, e => by
  rcases X _ _ hi with q | ⟨a, dd, ps, h2, h3, h4⟩
  ·cases q
  obtain ⟨p, hp, rfl⟩ := e
  rw [h2] at hp; cases hp
  obtain ⟨vs, n, D, rfl⟩ := h3.inv
  ·obtain ⟨f, r⟩ := FrzL.rdAt X fl D
   exact ⟨.tuple (by rw [fl.length]; exact hl) f, .tuple (.inr (List.mem_append_left _ (h4 _ (.head _)))) rfl rfl (by simpa using r)⟩
theorem FrzL.rdAt {P : Params} {B : Heap} {G : Wd} {led : List SO} {S : List (Addr × Obj)} (X : zHV P B G led S) : ∀ {xs : List SV} {ds : List PyData} {vs : List Value}, FrzL led xs ds → DenL B G xs vs → (∀ d ∈ ds, Fits d) ∧ RdL B (S ++ G.fz) vs ds
 | _, _, _, .nil, .nil => ⟨(fun _ h => by cases h), .nil⟩
 | _, _, _, .cons f fl, .cons d dl => by
  obtain ⟨a1, r⟩ := Frz.rdAt X f d
  obtain ⟨b1, q⟩ := FrzL.rdAt X fl dl
  exact ⟨fun x hx => by
   rcases List.mem_cons.mp hx with rfl | hx
   ·exact a1
   ·exact b1 x hx, .cons r q⟩
end
noncomputable def zAe (x : SV) : Prop := match x with
 | .obj _ => False
 | _ => True
end
section
variable {w : World} {C : Cf} {F : Fm} {s : Shared}
noncomputable def mask (n : Nat) (led : List SO) : List SO := List.replicate n .gone ++ led.drop n
inductive SvT (n : Nat) (led : List SO) : SV → SV → Prop
 | keep {i : Nat} : i < n → SvT n led (.obj i) (.obj i)
 | same {x : SV} : zAe x → SvT n led x x
 | un (c es fs) : SvT n led (.sg c es fs) (.str (sgS c))
 | frz {i : Nat} {d : PyData} : Frz (mask n led) (.obj i) d → SvT n led (.obj i) (svOf d)
inductive SvsT (n : Nat) (led : List SO) : List SV → List SV → Prop
 | nil : SvsT n led [] []
 | cons {x y : SV} {xs ys : List SV} : SvT n led x y → SvsT n led xs ys → SvsT n led (x :: xs) (y :: ys)
inductive FldT (n : Nat) (led : List SO) : List (Str × SV) → List (Str × SV) → Prop
 | nil : FldT n led [] []
 | cons {a : Str} {x y : SV} {xs ys : List (Str × SV)} : SvT n led x y → FldT n led xs ys → FldT n led ((a, x) :: xs) ((a, y) :: ys)
inductive SoT (n : Nat) (led : List SO) : SO → SO → Prop
 | inst {c : Addr} {fs gs : List (Str × SV)} : FldT n led fs gs → SoT n led (.inst c fs) (.inst c gs)
 | raw {o : Obj} : SoT n led (.raw o) (.raw o)
 | list {xs ys : List SV} : SvsT n led xs ys → SoT n led (.list xs) (.list ys)
 | tup {xs ys : List SV} : SvsT n led xs ys → SoT n led (.tup xs) (.tup ys)
 | cell {x y : SV} : SvT n led x y → SoT n led (.cell (some x)) (.cell (some y))
 | cell0 : SoT n led (.cell none) (.cell none)
 | dic {fs gs : List (Str × SV)} : FldT n led fs gs → SoT n led (.dic fs) (.dic gs)
 | it {b : Bool} {x y : SV} {j : Nat} : SvT n led x y → SoT n led (.it b x j) (.it b y j)
 | itr {m j : Nat} : SoT n led (.itr m j) (.itr m j)
 | rng {m : Nat} : SoT n led (.rng m) (.rng m)
 | gone : SoT n led .gone .gone
 | tab {p : Addr} : SoT n led (.tab p) (.tab p)
 | drop {x : SO} : SoT n led x .gone
inductive SosT (n : Nat) (led : List SO) : List SO → List SO → Prop
 | nil : SosT n led [] []
 | cons {x y : SO} {xs ys : List SO} : SoT n led x y → SosT n led xs ys → SosT n led (x :: xs) (y :: ys)
structure Trim (n : Nat) (st st' : St) : Prop where
 loc : ∀ x y, lk x st'.loc = some y → ∃ z, lk x st.loc = some z ∧ SvT n st.led z y
 led : SosT n st.led (st.led.take n) st'.led
theorem zIA {P : Params} {B : Heap} {G : Wd} : ∀ {a1 a2 : List (Addr × Addr)} {l1 l2 : List SO} {news : List (Addr × Obj)}, l1.length = a1.length → LedR P B G (a1 ++ a2) (l1 ++ l2) news → ∃ n1 n2, news = n1 ++ n2 ∧ LedR P B G a1 l1 n1 ∧ LedR P B G a2 l2 n2 := by
 intro a1 a2 l1 l2 news
 induction a1 generalizing l1 news with
 | nil =>
  intro h r
  cases l1 with
  | nil => exact ⟨[], news, rfl, .nil, r⟩
  | cons => cases h
 | cons p a1 ih =>
  intro h r
  cases l1 with
  | nil => cases h
  | cons so l1 =>
   cases r with
   | cons one r =>
    obtain ⟨n1, n2, e, r1, r2⟩ := ih (Nat.succ.inj h) r
    exact ⟨_ ++ n1, n2, by rw [e, List.append_assoc], .cons one r1, r2⟩
theorem zCw {P : Params} {B : Heap} {W more : Wd} {led : List SO} {S : List (Addr × Obj)} (X : zHV P B (wa W more) (mask W.ads.length led) S) {x y : SV} {v : Value} (t : SvT W.ads.length led x y) (d : Den B (wa W more) x v) : Den B (wa W (⟨[], more.fz ++ S⟩ : Wd)) y v := by
 have sub : ∀ p ∈ (wa W more).fz, p ∈ (wa W (⟨[], more.fz ++ S⟩ : Wd)).fz := fun p hp => by
  rw [Wd.fz_append] at hp ⊢
  rcases List.mem_append.mp hp with q | q
  ·exact List.mem_append_left _ q
  ·exact List.mem_append_right _ (List.mem_append_left _ q)
 cases t with
 | keep hi =>
  obtain ⟨p, hp, e⟩ := d
  refine ⟨p, ?_, e⟩
  rw [Wd.ads_append] at hp ⊢
  rw [List.getElem?_append_left hi] at hp ⊢
  exact hp
 | same hp =>
  cases x with
  | obj i => exact hp.elim
  | dat dd =>
   obtain ⟨e, f, r⟩ := d
   exact ⟨e, f, r.mono sub⟩
  | _ => exact d
 | un c es fs => exact ⟨d.1, by rw [zCG, sizeLine_eq]; lia⟩
 | frz f =>
  obtain ⟨ft, r⟩ := Frz.rdAt X f d
  refine zQU ft (r.mono fun p hp => ?_)
  rw [Wd.fz_append]
  show p ∈ W.fz ++ (more.fz ++ S)
  rcases List.mem_append.mp hp with q | q
  ·exact List.mem_append_right _ (List.mem_append_right _ q)
  ·exact sub p q
theorem zJg {P : Params} {B : Heap} {W more : Wd} {led : List SO} {S : List (Addr × Obj)} (X : zHV P B (wa W more) (mask W.ads.length led) S) : ∀ {xs ys : List SV} {vs : List Value}, SvsT W.ads.length led xs ys → DenL B (wa W more) xs vs → DenL B (wa W (⟨[], more.fz ++ S⟩ : Wd)) ys vs := by
 intro xs ys vs t
 induction t generalizing vs with
 | nil => intro d; cases d; exact .nil
 | cons t _ ih => intro d; cases d with | cons d dr => exact .cons (zCw X t d) (ih dr)
theorem zPi {P : Params} {B : Heap} {W more : Wd} {led : List SO} {S : List (Addr × Obj)} (X : zHV P B (wa W more) (mask W.ads.length led) S) : ∀ {fs gs : List (Str × SV)} {es : List DictEntry}, FldT W.ads.length led fs gs → EntR P B (wa W more) es fs → EntR P B (wa W (⟨[], more.fz ++ S⟩ : Wd)) es gs := by
 intro fs gs es t
 induction t generalizing es with
 | nil => intro d; cases d; exact .nil
 | cons t _ ih => intro d; cases d with | cons d dr => exact .cons (zCw X t d) (ih dr)
theorem zSU {P : Params} {B : Heap} {W more : Wd} {led : List SO} {S : List (Addr × Obj)} (X : zHV P B (wa W more) (mask W.ads.length led) S) : ∀ {fs gs : List (Str × SV)} {kvs : List (Str × Value)}, FldT W.ads.length led fs gs → KvR B (wa W more) fs kvs → KvR B (wa W (⟨[], more.fz ++ S⟩ : Wd)) gs kvs := by
 intro fs gs kvs t
 induction t generalizing kvs with
 | nil => intro d; cases d; exact .nil
 | cons t _ ih => intro d; cases d with | cons d dr => exact .cons (zCw X t d) (ih dr)
theorem zRP {P : Params} {B : Heap} {W more : Wd} {led : List SO} {S : List (Addr × Obj)} (X : zHV P B (wa W more) (mask W.ads.length led) S) {x y : SO} {a d : Addr} {ps : List (Addr × Obj)} (t : SoT W.ads.length led x y) (o : One P B (wa W more) x a d ps) : ∃ qs, List.Sublist qs ps ∧ One P B (wa W (⟨[], more.fz ++ S⟩ : Wd)) y a d qs := by
 cases t with
 | inst f => obtain ⟨_, _, e, rfl⟩ := o.inv; exact ⟨_, List.Sublist.refl _, .inst (zPi X f e)⟩
 | raw => obtain rfl := o.inv; exact ⟨_, List.Sublist.refl _, .raw⟩
 | list f => obtain ⟨_, _, e, rfl⟩ := o.inv; exact ⟨_, List.Sublist.refl _, .list (zJg X f e)⟩
 | tup f => obtain ⟨_, _, e, rfl⟩ := o.inv; exact ⟨_, List.Sublist.refl _, .tup (zJg X f e)⟩
 | cell f => obtain ⟨_, rfl, _, e, d⟩ := o.inv; exact ⟨_, List.Sublist.refl _, .cell e (zCw X f d)⟩
 | cell0 => obtain ⟨_, rfl, e⟩ := o.inv; exact ⟨_, List.Sublist.refl _, .cell0 e⟩
 | dic f => obtain ⟨_, _, e, g, rfl⟩ := o.inv; exact ⟨_, List.Sublist.refl _, .dic e (zSU X f g)⟩
 | it f => obtain ⟨_, _, e, d, rfl⟩ := o.inv; exact ⟨_, List.Sublist.refl _, .it e (zCw X f d)⟩
 | itr => obtain rfl := o.inv; exact ⟨_, List.Sublist.refl _, .itr⟩
 | rng => obtain ⟨_, _, _, e, rfl⟩ := o.inv; exact ⟨_, List.Sublist.refl _, .rng e⟩
 | tab => exact ⟨_, List.Sublist.refl _, by obtain ⟨rfl, _, e, rfl⟩ := o.inv; exact .tab e⟩
 | gone => obtain rfl := o.inv; exact ⟨_, List.Sublist.refl _, .gone⟩
 | drop => exact ⟨[], List.nil_sublist _, .gone⟩
theorem zOZ {P : Params} {B : Heap} {W more : Wd} {led : List SO} {S : List (Addr × Obj)} (X : zHV P B (wa W more) (mask W.ads.length led) S) : ∀ {xs ys : List SO} {as : List (Addr × Addr)} {news : List (Addr × Obj)}, SosT W.ads.length led xs ys → LedR P B (wa W more) as xs news → ∃ qs, List.Sublist qs news ∧ LedR P B (wa W (⟨[], more.fz ++ S⟩ : Wd)) as ys qs := by
 intro xs ys as news t
 induction t generalizing as news with
 | nil => intro l; cases l; exact ⟨[], List.Sublist.refl _, .nil⟩
 | cons t _ ih =>
  intro l
  cases l with
  | cons o l =>
   obtain ⟨q1, s1, o1⟩ := zRP X t o
   obtain ⟨q2, s2, o2⟩ := ih l
   exact ⟨q1 ++ q2, s1.append s2, .cons o1 o2⟩
theorem zEw {W more : Wd} {st st' : St} {h : Heap} (ok : FmOk C F) (R : Rep w F (wa W more) st h) (T : Trim W.ads.length st st') : ∃ z, Rep w F (wa W (⟨[], z⟩ : Wd)) st' h ∧ ∀ x y v, SvT W.ads.length st.led x y → Den F.B (wa W more) x v → Den F.B (wa W (⟨[], z⟩ : Wd)) y v := by
 obtain ⟨m, news, lw, X⟩ := R
 have hlen : st.led.length = W.ads.length + more.ads.length := by
  have := X.led.length
  rw [Wd.ads_append, List.length_append] at this
  exact this
 have XL := X.led
 rw [Wd.ads_append, ← List.take_append_drop W.ads.length st.led] at XL
 obtain ⟨n1, n2, e, r1, r2⟩ := zIA (by rw [List.length_take]; lia) XL
 subst e
 have at2 : zHV w.params F.B (wa W more) (mask W.ads.length st.led) n2 := by
  intro i so hi
  unfold mask at hi
  by_cases hlt : i < W.ads.length
  ·rw [List.getElem?_append_left (by rw [List.length_replicate]; exact hlt), List.getElem?_replicate, if_pos hlt] at hi
   cases hi; exact .inl rfl
  ·rw [List.getElem?_append_right (by rw [List.length_replicate]; lia), List.length_replicate] at hi
   obtain ⟨a, d, ps, h1, h2, h3⟩ := r2.atI hi
   refine .inr ⟨a, d, ps, ?_, h2, h3⟩
   rw [Wd.ads_append, List.getElem?_append_right (by lia)]
   exact h1
 have pm : (n1 ++ n2 ++ ((wa W more).fz ++ lw)).Perm (n1 ++ ((wa W (⟨[], more.fz ++ n2⟩ : Wd)).fz ++ lw)) := by
  show (n1 ++ n2 ++ ((W.fz ++ more.fz) ++ lw)).Perm (n1 ++ ((W.fz ++ (more.fz ++ n2)) ++ lw))
  rw [List.append_assoc, ← List.append_assoc W.fz, ← List.append_assoc n2]
  exact List.Perm.append_left n1 (List.Perm.append_right lw List.perm_append_comm)
 obtain ⟨qs, sub, lq⟩ := zOZ at2 T.led r1
 have sub2 : List.Sublist (qs ++ ((wa W (⟨[], more.fz ++ n2⟩ : Wd)).fz ++ lw)) (n1 ++ ((wa W (⟨[], more.fz ++ n2⟩ : Wd)).fz ++ lw)) := sub.append (List.Sublist.refl _)
 refine ⟨more.fz ++ n2, ⟨m, qs, lw, X.fr, fun p hp => X.nw p (pm.mem_iff.mpr (sub2.subset hp)), ?_, ?_, ?_, X.ups⟩, fun x y v t d => zCw at2 t d⟩
 ·intro x y hx
  obtain ⟨z, h1, h2⟩ := T.loc x y hx
  obtain ⟨v, e1, e2⟩ := X.loc x z h1
  exact ⟨v, e1, zCw at2 h2 e2⟩
 ·have : (wa W (⟨[], more.fz ++ n2⟩ : Wd)).ads = W.ads := List.append_nil _
  rw [this]
  exact lq
 ·exact (sub2.map (·.1)).nodup ((pm.map (·.1)).nodup_iff.mp X.nd)
theorem zEb {W more : Wd} {st st' : St} {h : Heap} (ok : FmOk C F) (R : Rep w F (wa W more) st h) (T : Trim W.ads.length st st') : ∃ z, Rep w F (wa W (⟨[], z⟩ : Wd)) st' h :=
 let ⟨z, r, _⟩ := zEw ok R T; ⟨z, r⟩
theorem zFI {α : Type} {x : Str} {y : α} : ∀ {l m : List (Str × α)}, lk x l = some y → lk x (l ++ m) = some y
 | (z, a) :: r, m, h => by
  show lk x ((z, a) :: (r ++ m)) = _
  unfold lk at h ⊢
  cases q : Fast.sEq x z with
  | true => rw [q] at h; exact h
  | false => rw [q] at h; exact zFI h
noncomputable def okV (n : Nat) (v : SV) : Prop := match v with
 | .obj i => i < n
 | _ => True
noncomputable def okF (n : Nat) : List (Str × SV) → Prop
 | [] => True
 | (_, v) :: r => okV n v ∧ okF n r
theorem zQK {n : Nat} {v : SV} (h : zAe v) : okV n v := by
 cases v with
 | obj i => exact h.elim
 | _ => trivial
theorem zGq {n : Nat} {led : List SO} {v : SV} (h : okV n v) : SvT n led v v := by
 cases v with
 | obj i => exact .keep h
 | _ => exact .same trivial
theorem zFV {n : Nat} {led : List SO} : ∀ {fs : List (Str × SV)}, okF n fs → FldT n led fs fs
 | [], _ => .nil
 | (_, _) :: _, h => .cons (zGq h.1) (zFV h.2)
theorem zFE {n : Nat} : ∀ {fs : List (Str × SV)}, okF n fs → ∀ z ∈ fs, okV n z.2 := by
 intro fs
 induction fs with
 | nil => intro _ z hz; cases hz
 | cons p r ih =>
  intro h z hz
  rcases List.mem_cons.mp hz with rfl | hz
  ·exact h.1
  ·exact ih h.2 z hz
end
noncomputable abbrev srcO (v : SV) (o : Option SO) : Option (List SV × (Nat → SO)) := match o with
 | none => none
 | some x => match x with
  | .list xs => some (xs, .it true v)
  | .tup xs => some (xs, .it false v)
  | .rng n => some ((List.range n).map fun (j : Nat) => SV.int (j : Int), .itr n)
  | _ => none
noncomputable def srcT (st : St) (v : SV) : Option (List SV × (Nat → SO)) := match v with
 | .str s => some (s.cps.toList.map fun c => .str (sgS c), .it true (.str s))
 | .obj i => srcO (.obj i) st.led[i]?
 | .dat d => match d with
  | .list ds => some (ds.map svOf, .it true (.dat (.list ds)))
  | .tuple ds => some (ds.map svOf, .it false (.dat (.tuple ds)))
  | _ => none
 | _ => none
inductive SrcK (st : St) : SV → List SV → (Nat → SO) → Prop
 | str (s : Str) : SrcK st (.str s) (s.cps.toList.map fun c => .str (sgS c)) (.it true (.str s))
 | seq {v : SV} {b : Bool} {xs : List SV} : zHm st v = some (b, xs) → SrcK st v xs (.it b v)
 | rng {i n : Nat} : st.led[i]? = some (.rng n) → SrcK st (.obj i) ((List.range n).map fun (j : Nat) => SV.int (j : Int)) (.itr n)
theorem zBv {st : St} {v : SV} {all : List SV} {slot : Nat → SO} (h : srcT st v = some (all, slot)) : SrcK st v all slot := by
 cases v <;> first | exact zAU h | skip
 ·cases h; exact .str _
 ·rename_i i
  replace h : srcO (.obj i) st.led[i]? = some (all, slot) := h
  cases hi : st.led[i]? with
  | none => rw [hi] at h; exact zAU h
  | some x =>
   rw [hi] at h
   cases x <;> first | exact zAU h | skip
   ·cases h
    exact .seq (congrArg seqO hi)
   ·cases h
    exact .seq (congrArg seqO hi)
   ·cases h
    exact .rng hi
 ·rename_i d
  cases d <;> first | exact zAU h | skip
  ·cases h; exact .seq rfl
  ·cases h; exact .seq rfl
section
variable {w : World} {C : Cf} {F : Fm} {ads : Wd} {s : Shared} {st : St} {A : Around} {E : Value → Shared → Prop}
theorem zCN {h : Heap} (R : Rep w F ads st h) : st.led.length = ads.ads.length := let ⟨_, _, _, X⟩ := R; X.led.length
theorem zEy {h : Heap} {p j : Nat} {I : Addr} {b : Bool} {src : SV} (R : Rep w F ads st h) (dI : Den F.B ads (.obj p) (.ref I)) (hp : st.led[p]? = some (.it b src j)) :
  ∃ o u, h.get? I = some o ∧ zPu b o u j ∧ Den F.B ads src u ∧
   (∀ h' o' j', h'.get? I = some o' → zPu b o' u j' → (∀ c, c ≠ I → ∀ q, h.get? c = some q → h'.get? c = some q) → Rep w F ads { st with led := st.led.set p (.it b src j') } h') ∧
   ∀ h', (∀ c, c ≠ I → ∀ q, h.get? c = some q → h'.get? c = some q) → Rep w F ads { st with led := st.led.set p .gone } h' := by
 obtain ⟨m, news, lw, pre, ps, post, a, dd, X, h1, h2, h3, h4⟩ := zDP R hp
 obtain ⟨q, hq, e⟩ := dI
 rw [h2] at hq
 obtain rfl := Option.some.inj hq
 obtain rfl : I = a := by cases e; rfl
 obtain ⟨o, u, hit, dv, rfl⟩ := h3.inv
 exact ⟨o, u, (X.nw (I, o) (by rw [h1]; simp)).1, hit, dv, fun h' o' j' e1 e2 hs => zCj X h1 (h4 _ _ (One.it e2 dv)) e1 hs, fun h' hs => zHp X h1 (h4 _ _ One.gone) hs⟩
theorem zJA {h : Heap} {p j n : Nat} {I : Addr} (R : Rep w F ads st h) (dI : Den F.B ads (.obj p) (.ref I)) (hp : st.led[p]? = some (.itr n j)) :
  h.get? I = some (zEB n j) ∧
   (∀ h' j', h'.get? I = some (zEB n j') → (∀ c, c ≠ I → ∀ q, h.get? c = some q → h'.get? c = some q) → Rep w F ads { st with led := st.led.set p (.itr n j') } h') ∧
   ∀ h', (∀ c, c ≠ I → ∀ q, h.get? c = some q → h'.get? c = some q) → Rep w F ads { st with led := st.led.set p .gone } h' := by
 obtain ⟨m, news, lw, pre, ps, post, a, dd, X, h1, h2, h3, h4⟩ := zDP R hp
 obtain ⟨q, hq, e⟩ := dI
 rw [h2] at hq
 obtain rfl := Option.some.inj hq
 obtain rfl : I = a := by cases e; rfl
 obtain rfl := h3.inv
 exact ⟨(X.nw (I, zEB n j) (by rw [h1]; simp)).1, fun h' j' e1 hs => zCj X h1 (h4 _ _ One.itr) e1 hs, fun h' hs => zHp X h1 (h4 _ _ One.gone) hs⟩
theorem zDq {v : SV} {u : Value} {all : List SV} {slot : Nat → SO} {Q : Value → Shared → Prop} (ok : FmOk C F) (R : Rep w F ads st s.heap) (d : Den F.B ads v u) (hs : srcT st v = some (all, slot))
  (hQ : ∀ s', Rep w F (wa ads (.one s.heap.objs.size 0)) { st with led := st.led ++ [slot 0] } s'.heap → Nx F s s' → Q (.ref s.heap.objs.size) s') : wpAny (model prog w) A (pyIter u) Q E s := by
 cases zBv hs with
 | str x =>
  obtain ⟨⟨t, rfl⟩, l⟩ := d
  refine wpAny_pyIter_strU (hQ _ (zBK rfl R (.it (v := .str x t) ⟨rfl, rfl⟩ ⟨⟨t, rfl⟩, l⟩)) (Nx.of_gens rfl rfl rfl))
 | seq hq =>
  rename_i b
  obtain ⟨a, vs, rfl, hsq, D⟩ := zBD ok R d hq
  cases b with
  | true => exact wpAny_pyIter_list hsq (hQ _ (zBK rfl R (.it (v := .ref a) ⟨rfl, rfl⟩ d.mono)) (Nx.of_gens rfl rfl rfl))
  | false => exact wpAny_pyIter_tuple hsq (hQ _ (zBK rfl R (.it (v := .ref a) ⟨rfl, rfl⟩ d.mono)) (Nx.of_gens rfl rfl rfl))
 | rng hi =>
  rename_i i n
  obtain ⟨m, news, lw, pre, ps, post, a, dd, X, h1, h2, h3, h4⟩ := zDP R hi
  obtain ⟨p, hp, rfl⟩ := d
  rw [h2] at hp; cases hp
  obtain ⟨t, u, v, hn, rfl⟩ := h3.inv
  ·rw [sizeLine_eq] at hn
   have hr : IsRange s.heap a 0 n 1 t u v := (X.nw (a, rngO n t u v) (by rw [h1]; simp)).1
   have sz : Builtin.Range.rangeSize 0 n 1 = (n : Int) := by rw [rangeSize_nat]; lia
   refine wpAny_pyIter_range hr (small_one (by lia) (by lia) (by lia) (by lia)) ?_
   rw [sz]
   refine hQ _ (zBK rfl ⟨m, news, lw, X⟩ ?_) (Nx.of_gens rfl rfl rfl)
   have := One.itr (P := w.params) (B := F.B) (G := (wa ads (.one s.heap.objs.size 0))) (a := s.heap.objs.size) (d := 0) (n := n) (j := 0)
   simpa [zEB] using this
theorem zFP {v x : SV} {p j : Nat} {I : Addr} {all : List SV} {slot : Nat → SO} {Q : Option Value → Shared → Prop} (ok : FmOk C F) (R : Rep w F ads st s.heap) (dI : Den F.B ads (.obj p) (.ref I)) (hp : st.led[p]? = some (slot j)) (hs : srcT st v = some (all, slot)) (hx : all[j]? = some x)
  (hQ : ∀ s' u, Rep w F ads { st with led := st.led.set p (slot (j + 1)) } s'.heap → Nx F s s' → Den F.B ads x u → Q (some u) s') : wpAny (model prog w) A (pyNext (.ref I)) Q E s := by
 have R0 := R
 cases zBv hs with
 | str y =>
  obtain ⟨o, u, ho, hit, dv, upd, drop⟩ := zEy R dI hp
  ·obtain ⟨⟨t, rfl⟩, l⟩ := dv
   obtain ⟨c1, c2⟩ := hit
   rw [List.getElem?_map, Option.map_eq_some_iff] at hx
   obtain ⟨c, hc, rfl⟩ := hx
   have hc' : y.cps[j]? = some c := by simpa using hc
   have fin : ∀ h', h'.IsStrIter I (strIterType y) y t (j + 1) → Heap.SameBut I s.heap h' → Q (some (.str ⟨#[c]⟩ s.toks)) { s with heap := h', toks := s.toks + 1 } := fun h' hi' hs' => by
    obtain ⟨o', e1, e2, e3⟩ := hi'
    exact hQ _ _ (upd _ _ _ e1 ⟨e2, e3⟩ fun b hb o q => (hs'.2 b hb).trans q) (Nx.of_gens rfl rfl rfl) ⟨⟨_, rfl⟩, by rw [zCG, sizeLine_eq]; lia⟩
   by_cases ha : y.cps.all (· < 128) = true
   ·have et : strIterType y = "str_ascii_iterator" := by unfold strIterType; rw [ha]; rfl
    rw [et] at c1 fin
    exact wpAny_pyNext_ascii_item ⟨o, ho, c1, c2⟩ hc' fin
   ·have et : strIterType y = "str_iterator" := by unfold strIterType; rw [Bool.not_eq_true] at ha; rw [ha]; rfl
    rw [et] at c1 fin
    exact wpAny_pyNext_wide_item ⟨o, ho, c1, c2⟩ hc' fin
 | seq hq =>
  rename_i b
  obtain ⟨o, u, ho, hit, dv, upd, drop⟩ := zEy R dI hp
  ·obtain ⟨l, vs, rfl, hsq, D⟩ := zBD ok R0 dv hq
   obtain ⟨c1, c2⟩ := hit
   obtain ⟨y, hy, dy⟩ := D.get hx
   cases b with
   | true =>
    refine wpAny_pyNext_list_item ⟨o, ho, c1, c2⟩ hsq (by simpa using hy) fun h' hi' hs' => ?_
    obtain ⟨o', e1, e2, e3⟩ := hi'
    exact hQ _ _ (upd _ _ _ e1 ⟨e2, e3⟩ fun b hb o q => (hs'.2 b hb).trans q) (Nx.of_gens rfl rfl rfl) dy
   | false =>
    refine wpAny_pyNext_tuple_item ⟨o, ho, c1, c2⟩ hsq (by simpa using hy) fun h' hi' hs' => ?_
    obtain ⟨o', e1, e2, e3⟩ := hi'
    exact hQ _ _ (upd _ _ _ e1 ⟨e2, e3⟩ fun b hb o q => (hs'.2 b hb).trans q) (Nx.of_gens rfl rfl rfl) dy
 | rng hi =>
  rename_i i n
  obtain ⟨ho', upd, drop⟩ := zJA R dI hp
  ·have ho : IsRangeIter s.heap I j ((n : Int) - j) 1 := ho'
   rw [List.getElem?_map, Option.map_eq_some_iff] at hx
   obtain ⟨c, hc, rfl⟩ := hx
   have hjn : j < n := by
    rw [List.getElem?_eq_some_iff] at hc
    obtain ⟨h, _⟩ := hc
    simpa using h
   have hcj : c = j := by
    rw [List.getElem?_eq_some_iff] at hc
    obtain ⟨h, e⟩ := hc
    simpa using e.symm
   subst hcj
   refine wpAny_pyNext_range_item ho (by lia) fun h' hi' hs' => ?_
   have e1 : h'.get? I = some (zEB n (c + 1)) := by
    have := hi'
    unfold zEB
    rw [show ((c + 1 : Nat) : Int) = (c : Int) + 1 by lia, show (n : Int) - ((c : Int) + 1) = (n : Int) - c - 1 by lia]
    exact this
   exact hQ _ _ (upd _ _ e1 fun b hb o q => (hs'.2 b hb).trans q) (Nx.of_gens rfl rfl rfl) ⟨_, rfl⟩
theorem zFQ {v : SV} {p j : Nat} {I : Addr} {all : List SV} {slot : Nat → SO} {Q : Option Value → Shared → Prop} (hh : A.handled = none) (ok : FmOk C F) (R : Rep w F ads st s.heap) (dI : Den F.B ads (.obj p) (.ref I)) (hp : st.led[p]? = some (slot j)) (hs : srcT st v = some (all, slot)) (hx : all[j]? = none)
  (hQ : ∀ s', Rep w F ads { st with led := st.led.set p .gone } s'.heap → Nx F s s' → Q none s') : wpAny (model prog w) A (pyNext (.ref I)) Q E s := by
 have R0 := R
 cases zBv hs with
 | str y =>
  obtain ⟨o, u, ho, hit, dv, upd, drop⟩ := zEy R dI hp
  ·obtain ⟨⟨t, rfl⟩, l⟩ := dv
   obtain ⟨c1, c2⟩ := hit
   have hc' : y.cps[j]? = none := by simpa using hx
   have fin : ∀ h', Heap.ExtBut I s.heap h' → Q none { s with heap := h' } := fun h' hs' =>
    hQ _ (drop _ fun b hb o q => hs' b o hb q) (Nx.of_gens rfl rfl rfl)
   by_cases ha : y.cps.all (· < 128) = true
   ·have et : strIterType y = "str_ascii_iterator" := by unfold strIterType; rw [ha]; rfl
    rw [et] at c1
    exact wpAny_pyNext_ascii_end hh ⟨o, ho, c1, c2⟩ hc' fin
   ·have et : strIterType y = "str_iterator" := by unfold strIterType; rw [Bool.not_eq_true] at ha; rw [ha]; rfl
    rw [et] at c1
    exact wpAny_pyNext_wide_end hh ⟨o, ho, c1, c2⟩ hc' fin
 | seq hq =>
  rename_i b
  obtain ⟨o, u, ho, hit, dv, upd, drop⟩ := zEy R dI hp
  ·obtain ⟨l, vs, rfl, hsq, D⟩ := zBD ok R0 dv hq
   obtain ⟨c1, c2⟩ := hit
   have hy : vs.toArray[j]? = none := by
    have := D.length
    rw [List.getElem?_eq_none_iff] at hx
    simp; lia
   have fin : ∀ h', Heap.ExtBut I s.heap h' → Q none { s with heap := h' } := fun h' hs' =>
    hQ _ (drop _ fun b hb o q => hs' b o hb q) (Nx.of_gens rfl rfl rfl)
   cases b with
   | true => exact wpAny_pyNext_list_end hh ⟨o, ho, c1, c2⟩ hsq hy fin
   | false => exact wpAny_pyNext_tuple_end hh ⟨o, ho, c1, c2⟩ hsq hy fin
 | rng hi =>
  rename_i i n
  obtain ⟨ho', upd, drop⟩ := zJA R dI hp
  ·have ho : IsRangeIter s.heap I j ((n : Int) - j) 1 := ho'
   have hjn : n ≤ j := by
    rw [List.getElem?_eq_none_iff] at hx
    simpa using hx
   exact wpAny_pyNext_range_end hh ho (by lia) fun h' hs' => hQ _ (drop _ fun b hb o q => hs' b o hb q) (Nx.of_gens rfl rfl rfl)
theorem zLM {v : SV} {p j : Nat} {I : Addr} {all : List SV} {slot : Nat → SO} {Q : Value → Shared → Prop} (ok : FmOk C F) (R : Rep w F ads st s.heap) (dI : Den F.B ads (.obj p) (.ref I)) (hp : st.led[p]? = some (slot j)) (hs : srcT st v = some (all, slot)) (hQ : Q (.ref I) s) : wpAny (model prog w) A (pyIter (.ref I)) Q E s := by
 have R0 := R
 cases zBv hs with
 | str y =>
  obtain ⟨o, u, ho, hit, dv, upd, drop⟩ := zEy R dI hp
  ·obtain ⟨⟨t, rfl⟩, l⟩ := dv
   obtain ⟨c1, c2⟩ := hit
   by_cases ha : y.cps.all (· < 128) = true
   ·have et : strIterType y = "str_ascii_iterator" := by unfold strIterType; rw [ha]; rfl
    rw [et] at c1
    exact wpAny_pyIter_striter_ascii ⟨o, ho, c1, c2⟩ hQ
   ·have et : strIterType y = "str_iterator" := by unfold strIterType; rw [Bool.not_eq_true] at ha; rw [ha]; rfl
    rw [et] at c1
    exact wpAny_pyIter_striter_wide ⟨o, ho, c1, c2⟩ hQ
 | seq hq =>
  rename_i b
  obtain ⟨o, u, ho, hit, dv, upd, drop⟩ := zEy R dI hp
  ·obtain ⟨l, vs, rfl, hsq, D⟩ := zBD ok R0 dv hq
   obtain ⟨c1, c2⟩ := hit
   cases b with
   | true => exact wpAny_pyIter_listiter ⟨o, ho, c1, c2⟩ hQ
   | false => exact wpAny_pyIter_tupleiter ⟨o, ho, c1, c2⟩ hQ
 | rng hi =>
  rename_i i n
  obtain ⟨ho', upd, drop⟩ := zJA R dI hp
  ·have ho : IsRangeIter s.heap I j ((n : Int) - j) 1 := ho'
   exact wpAny_pyIter_rangeiter ho hQ
theorem zFK {target : Expr} {it v : Value} {Q : Unit → Shared → Prop} (hv : ∀ a, v ≠ .ref a) (h : Q () s) : wpAny (model prog w) A (letOwnedTupleGo target it v) Q E s := by
 unfold letOwnedTupleGo
 cases target <;> first
  | exact wpAny_pure h
  | (cases v <;> first
    | exact absurd rfl (hv _)
    | (cases it <;> exact wpAny_pure h))
theorem zDr {v x : SV} {p j : Nat} {I : Addr} {u : Value} {all : List SV} {slot : Nat → SO} {target : Expr} {Q : Unit → Shared → Prop} (ok : FmOk C F) (R : Rep w F ads st s.heap) (dI : Den F.B ads (.obj p) (.ref I)) (hp : st.led[p]? = some (slot j)) (hk : SrcK st v all slot) (hx : x ∈ all) (dx : Den F.B ads x u) (hQ : Q () s) : wpAny (model prog w) A (letOwnedTupleGo target (.ref I) u) Q E s := by
 cases hk with
 | str y =>
  obtain ⟨c, _, rfl⟩ := List.mem_map.mp hx
  obtain ⟨⟨t, rfl⟩, _⟩ := dx
  exact zFK (fun a e => nomatch e) hQ
 | seq hq =>
  rename_i b
  obtain ⟨o, y, ho, hit, dv, upd, drop⟩ := zEy R dI hp
  ·obtain ⟨l, vs, rfl, hsq, D⟩ := zBD ok R dv hq
   obtain ⟨c1, c2⟩ := hit
   cases b with
   | true => exact PyProof.Rows.letGo_listiter ⟨o, ho, c1, c2⟩ hQ
   | false => exact PyProof.Rows.letGo_tupleiter ⟨o, ho, c1, c2⟩ hQ
 | rng hi =>
  obtain ⟨c, _, rfl⟩ := List.mem_map.mp hx
  obtain ⟨t, rfl⟩ := dx
  exact zFK (fun a e => nomatch e) hQ
end
noncomputable abbrev onOb (x : SV) (f : Nat → Prop) : Prop := match x with
 | .obj i => f i
 | _ => False
theorem zBL {x : SV} {f : Nat → Prop} (h : onOb x f) : ∃ s, x = .obj s ∧ f s := by
 cases x <;> first | exact ⟨_, rfl, h⟩ | exact h.elim
noncomputable abbrev zJz (o : Option NameKind) (p q : Prop) : Prop := match o with
 | none => False
 | some k => match k with
  | .local => p
  | .cell => q
  | _ => False
theorem zCM {o : Option NameKind} {p q : Prop} (h : zJz o p q) : (o = some .local ∧ p) ∨ (o = some .cell ∧ q) := by
 cases o with
 | none => exact h.elim
 | some x => cases x <;> first | exact .inl ⟨rfl, h⟩ | exact .inr ⟨rfl, h⟩ | exact h.elim
noncomputable def stT (ns : List (Str × NameKind)) (x : Str) (v : SV) (st : St) (k : St → Prop) : Prop := zJz (zAd x ns) (k { st with loc := put x v st.loc }) (zBW (lk x st.loc) fun y => onOb y fun i => zPD st.led[i]? fun _ => k { st with led := st.led.set i (.cell (some v)) })
noncomputable def zEL (ns : List (Str × NameKind)) : List Expr → List SV → St → (St → Prop) → Prop
 | [], xs, st, k => match xs with
  | [] => k st
  | _ => False
 | e :: es, xs, st, k => match e with
  | .Name n _ => match xs with
   | x :: xs => stT ns n x st fun st' => zEL ns es xs st' k
   | [] => False
  | _ => False
noncomputable def zAN (ns : List (Str × NameKind)) (tgt : Expr) (x : SV) (st : St) (k : St → Prop) : Prop := match tgt with
 | .Name n _ => stT ns n x st k
 | .Tuple elts _ _ => ∃ b xs, zHm st x = some (b, xs) ∧ xs.length = elts.length ∧ zEL ns elts xs st k
 | _ => False
noncomputable def forE (bnd : SV → St → (St → Prop) → Prop) (body : St → Kt → Prop) (v : SV) (all : List SV) (slot : Nat → SO) (p : Nat) : Nat → List SV → St → Kt → Prop
 | j, [], st, k => st.led[p]? = some (slot j) ∧ srcT st v = some (all, slot) ∧ k .next { st with led := st.led.set p .gone }
 | j, x :: xs, st, k => st.led[p]? = some (slot j) ∧ srcT st v = some (all, slot) ∧ bnd x { st with led := st.led.set p (slot (j + 1)) } fun st₁ => body st₁ fun r st₂ => match r with
  | .next => ∃ st₃, Trim st.led.length st₂ st₃ ∧ forE bnd body v all slot p (j + 1) xs st₃ k
  | .cont => ∃ st₃, Trim st.led.length st₂ st₃ ∧ forE bnd body v all slot p (j + 1) xs st₃ k
  | .ret y => k (.ret y) st₂
  | _ => False
noncomputable def zCo (test : Option (St → Kt → Prop)) (st : St) (k : Bool → St → Prop) : Prop := match test with
 | none => k true st
 | some t => t st fun r st₁ => match r with
  | .b c => k c st₁
  | _ => False
noncomputable def appT (q : Nat) (y : SV) (st : St) (k : St → Prop) : Prop := zHu st.led[q]? fun ys => ys.length ≤ sizeLine ∧ k { st with led := st.led.set q (.list (ys ++ [y])) }
noncomputable def zBZ (bnd : SV → St → (St → Prop) → Prop) (test : Option (St → Kt → Prop)) (elt : St → Kt → Prop) (v : SV) (all : List SV) (slot : Nat → SO) (p q : Nat) : Nat → List SV → St → (St → Prop) → Prop
 | j, [], st, k => st.led[p]? = some (slot j) ∧ srcT st v = some (all, slot) ∧ k { st with led := st.led.set p .gone }
 | j, x :: xs, st, k => st.led[p]? = some (slot j) ∧ srcT st v = some (all, slot) ∧ bnd x { st with led := st.led.set p (slot (j + 1)) } fun st₁ => zCo test st₁ fun c st₂ =>
   ifT c (elt st₂ fun r st₃ => match r with
    | .v y => appT q y st₃ fun st₄ => ∃ st₅, Trim st.led.length st₄ st₅ ∧ zBZ bnd test elt v all slot p q (j + 1) xs st₅ k
    | _ => False)
   (∃ st₅, Trim st.led.length st₂ st₅ ∧ zBZ bnd test elt v all slot p q (j + 1) xs st₅ k)
section
variable {w : World} {C : Cf} {F : Fm} {ads : Wd} {s : Shared} {st : St} {A : Around} {E : Value → Shared → Prop}
theorem zIS {it l : Addr} {items : Array Value} (hne : l ≠ it) : ∀ (n i : Nat) (s : Shared) (Q : List Value → Shared → Prop), s.heap.IsListIter it l i → s.heap.IsList l items → i + n ≤ items.size →
  (∀ h', h'.IsListIter it l (i + n) → Heap.SameBut it s.heap h' → Q ((items.toList.drop i).take n) { s with heap := h' }) → wpAny (model prog w) A (draw (.ref it) n) Q E s
 | 0, i, s, Q, hit, _, _, hQ => by
  show wpAny _ _ (pure []) Q E s
  exact wpAny_pure (by simpa using hQ s.heap hit (Heap.SameBut.refl ..))
 | n + 1, i, s, Q, hit, ht, hle, hQ => by
  have hlt : i < items.size := by lia
  show wpAny _ _ (pyNext (.ref it) >>= _) Q E s
  refine wpAny_bind (wpAny_pyNext_list_item hit ht (x := items[i]) (by simp [hlt]) fun h₁ hit₁ hs₁ => ?_)
  refine wpAny_bind (wpAny_holding (zIS hne n (i + 1) _ _ hit₁ (ht.extBut hs₁.extBut hne) (by lia) fun h₂ hit₂ hs₂ => wpAny_pure ?_))
  have hd : items.toList.drop i = items[i] :: items.toList.drop (i + 1) := by simp [List.drop_eq_getElem_cons, hlt]
  have := hQ h₂ (by rw [show i + (n + 1) = i + 1 + n by lia]; exact hit₂) (hs₁.trans hs₂)
  rw [hd, List.take_succ_cons] at this
  exact this
theorem zEN {t : Addr} {items : Array Value} {Q : List Value → Shared → Prop} (hh : A.handled = none) (ht : s.heap.IsList t items)
  (hQ : ∀ h', Heap.ExtBut s.heap.objs.size s.heap h' → Q items.toList { s with heap := h' }) : wpAny (model prog w) A (unpackItems (.ref t) items.size none) Q E s := by
 have hlt : t ≠ s.heap.objs.size := by obtain ⟨o, ho, _⟩ := ht; exact Nat.ne_of_lt (Heap.lt_size ho)
 unfold unpackItems
 refine wpAny_bind ?_
 ·unfold notIterableAtAll
  refine wpAny_bind (wpAny_specialOf ht.typeIs slot_list_iter.lookup ?_)
  refine wpAny_pure ?_
  simp only [Bool.false_eq_true, if_false]
  refine wpAny_bind (wpAny_holding (wpAny_pyIter_list ht ?_))
  refine wpAny_bind (wpAny_holding (zIS hlt items.size 0 _ _ ⟨_, Heap.get?_push_size _ rfl, rfl, rfl⟩ (ht.push _) (by lia) fun h₁ hit₁ hs₁ => ?_))
  have hall : List.take items.size (List.drop 0 items.toList) = items.toList := by
   rw [List.drop_zero]; exact List.take_of_length_le (by simp)
  rw [hall]
  rw [if_neg (by simp)]
  have ht₁ : h₁.IsList t items := (ht.push _).extBut hs₁.extBut hlt
  refine wpAny_bind (wpAny_holding (wpAny_pyNext_list_end hh hit₁ ht₁ (by simp) fun h₂ he₂ => ?_))
  simp only [Option.isSome_none, Bool.false_eq_true, if_false]
  refine wpAny_pure (hQ h₂ fun b o hb e => he₂ b o hb (hs₁.extBut b o hb (Heap.get?_push_of_some _ e)))
theorem zKR {b : Bool} {t : Addr} {vs : List Value} {targets : List (Bool × (Value → Sem Unit))} {Q : Unit → Shared → Prop} (hh : A.handled = none) (ht : SeqAt s.heap b t vs)
  (hn : targets.length = vs.length) (hstar : targets.findIdx? (·.1) = none)
  (h : ∀ h', Heap.ExtBut s.heap.objs.size s.heap h' → wpAny (model prog w) A (assignInOrder (targets.map (·.2)) vs) Q E { s with heap := h' }) :
  wpAny (model prog w) A (unpack (.ref t) targets) Q E s := by
 cases b with
 | true =>
  unfold unpack
  rw [hn, hstar, show vs.length = vs.toArray.size by simp]
  exact wpAny_bind (wpAny_holding (zEN hh ht (by simpa using h)))
 | false => exact unpack_tuple hh ht (by simpa using hn) hstar (by simpa using h)
theorem zBP {x : Str} {v : SV} {u : Value} {k : St → Prop} {Q : Unit → Shared → Prop} (ok : FmOk C F) (R : Rep w F ads st s.heap) (d : Den F.B ads v u) (h : stT F.sc.names x v st k)
  (hQ : ∀ st' s', k st' → Rep w F ads st' s'.heap → Nx F s s' → Q () s') : wpAny (model prog w) F.A (storeName F.env x u) Q E s := by
 rcases zCM h with ⟨hk, h⟩ | ⟨hk, h⟩
 ·rw [zAW] at hk
  exact zEx ok R d hk fun h' t R' => hQ _ _ h R' (Nx.mk' s h' t)
 ·rw [zAW] at hk
  obtain ⟨y, hi, h⟩ := zAM h
  obtain ⟨i, rfl, h⟩ := zBL h
  obtain ⟨old, ho, h⟩ := zCm h
  exact zHq ok R hk hi ho d fun h' R' => hQ _ _ h R' (Nx.of_gens rfl rfl rfl)
theorem zFi (ok : FmOk C F) : ∀ {es : List Expr} {xs : List SV} {vs : List Value} {st : St} {s : Shared} {k : St → Prop} {Q : Unit → Shared → Prop}, Rep w F ads st s.heap → DenL F.B ads xs vs → zEL F.sc.names es xs st k →
  (∀ st' s', k st' → Rep w F ads st' s'.heap → Nx F s s' → Q () s') → wpAny (model prog w) F.A (assignInOrder ((assignEach es F.env).map (·.2)) vs) Q E s
 | [], xs, vs, st, s, k, Q, R, D, h, hQ => by
  cases D with
  | nil => exact wpAny_pure (hQ _ _ h R (Nx.refl s))
  | cons _ _ => exact h.elim
 | e :: es, xs, vs, st, s, k, Q, R, D, h, hQ => by
  cases e <;> first | exact False.elim h | skip
  cases D with
  | nil => exact h.elim
  | cons dx dr =>
   refine assignInOrder_cons (wpAny_assign_Name (zBP (k := fun st' => zEL F.sc.names es _ st' k) ok R dx h fun st' s' h R' x' => ?_))
   exact zFi ok R' dr h fun st'' s'' hk R'' x'' => hQ _ _ hk R'' (x'.trans x'')
theorem zFu : ∀ {ns : List (Str × NameKind)} {es : List Expr} {xs : List SV} {st : St} {k : St → Prop} {env : Env}, zEL ns es xs st k → (assignEach es env).length = es.length ∧ (assignEach es env).findIdx? (·.1) = none := by
 have key : ∀ {es : List Expr} {env : Env}, (∀ e ∈ es, ∃ n p, e = .Name n p) → (assignEach es env).length = es.length ∧ (assignEach es env).findIdx? (·.1) = none := by
  intro es env
  induction es with
  | nil => intro _; exact ⟨rfl, rfl⟩
  | cons e es ih =>
   intro h
   obtain ⟨n, p, rfl⟩ := h _ (.head _)
   obtain ⟨a, b⟩ := ih fun x hx => h x (.tail _ hx)
   refine ⟨congrArg (· + 1) a, ?_⟩
   show List.findIdx? (·.1) ((false, assign (.Name n p) env) :: assignEach es env) = none
   rw [List.findIdx?_cons, b]
   rfl
 intro ns es xs st k env h
 refine key ?_
 induction es generalizing xs st k with
 | nil => intro e he; cases he
 | cons e es ih =>
  cases e <;> first | exact False.elim h | skip
  cases xs with
  | nil => exact False.elim h
  | cons x xs =>
   intro e' he'
   rcases List.mem_cons.mp he' with rfl | he'
   ·exact ⟨_, _, rfl⟩
   ·rcases zCM h with ⟨_, h⟩ | ⟨_, h⟩
    ·exact ih h e' he'
    ·obtain ⟨y, _, h⟩ := zAM h
     obtain ⟨i, _, h⟩ := zBL h
     obtain ⟨o, _, h⟩ := zCm h
     exact ih h e' he'
theorem zCn {tgt : Expr} {x : SV} {u : Value} {k : St → Prop} {Q : Unit → Shared → Prop} (ok : FmOk C F) (R : Rep w F ads st s.heap) (d : Den F.B ads x u) (h : zAN F.sc.names tgt x st k)
  (hQ : ∀ st' s', k st' → Rep w F ads st' s'.heap → Nx F s s' → Q () s') : wpAny (model prog w) F.A (assign tgt F.env u) Q E s := by
 cases tgt <;> first | exact False.elim h | skip
 ·exact wpAny_assign_Name (zBP ok R d h hQ)
 ·rename_i elts q pos
  obtain ⟨b, xs, e, hl, h⟩ := h
  obtain ⟨a, vs, rfl, hsq, D⟩ := zBD ok R d e
  obtain ⟨l1, l2⟩ := zFu (env := F.env) h
  rw [PyProof.Rows.assign_Tuple]
  refine wpAny_bind (wpAny_standAt (zKR ok.hand hsq (by rw [l1, ← hl, D.length]) l2 fun h' he => ?_))
  refine zFi (s := { s with heap := h' }) ok ?_ D h fun st' s' hk R' x' => hQ st' s' hk R' ((Nx.of_gens rfl rfl rfl : Nx F s { s with heap := h' }).trans x')
  exact zEc R fun b o q => he b o (Nat.ne_of_lt (Heap.lt_size q)) q
end
section
variable {w : World} {C : Cf} {F : Fm} {ads : Wd} {s : Shared} {st : St} {A : Around} {E : Value → Shared → Prop}
theorem zEj {target it : _} {body : List Stmt} {env : Env} {R : Result → Shared → Prop}
  (turn : wpAny (model prog w) A (pyNext it) (fun r s₁ => match r with
   | none => wpAny (model prog w) A (execs [] env) (fun f s₃ => R (.ok f) s₃) (notedBy (model prog w) A env fun e s' => R (.error e) s') s₁
   | some v => wpAny (model prog w) A (letOwnedTupleGo target it v) (fun _ s₁' =>
     wpAny (model prog w) A (assign target env v) (fun _ s₂ => wpAny (model prog w) A (execs body env) (fun f s₃ => match f with
      | .next | .cont => codeAny (model prog w) A (.forLoop target it body [] env) R s₃
      | .brk => R (.ok .next) s₃
      | .ret v => R (.ok (.ret v)) s₃) (notedBy (model prog w) A env fun e s' => R (.error e) s') s₂) (notedBy (model prog w) A env fun e s' => R (.error e) s') s₁') (notedBy (model prog w) A env fun e s' => R (.error e) s') s₁) (notedBy (model prog w) A env fun e s' => R (.error e) s') s) :
  codeAny (model prog w) A (.forLoop target it body [] env) R s := by
 refine codeAny_of_tree ?_
 show wpAny _ A ((forTurn target it body [] env).onRaise (fun x => do noteFrame x env; theTreesLotGoes x)) _ _ s
 refine wpAny_noted ?_
 simp only [forTurn]
 refine wpAny_bind (wpAny_standAt (wpAny_bind (wpAny_onRaise (wpAny_mono turn (fun r s₁ h₁ => ?_) fun _ _ h' => wpAny_standAt h'))))
 cases r with
 | none => exact wpAny_pure ⟨rfl, codeAny_block h₁⟩
 | some v =>
  refine wpAny_bind (wpAny_mono h₁ (fun _ s₁' h₁' => ?_) fun _ _ h' => h')
  refine wpAny_bind (wpAny_mono h₁' (fun _ s₂ h₂ => wpAny_bind (wpAny_mono h₂ (fun f s₃ h₃ => ?_) fun _ _ h' => h')) fun _ _ h' => h')
  cases f with
  | next => exact wpAny_pure ⟨rfl, h₃⟩
  | cont => exact wpAny_pure ⟨rfl, h₃⟩
  | brk => exact wpAny_pure h₃
  | ret v => exact wpAny_pure h₃
theorem zGt {st : St} {v x : SV} {all xs : List SV} {slot : Nat → SO} {j : Nat} (hs : srcT st v = some (all, slot)) (hd : all.drop j = x :: xs) : all[j]? = some x ∧ all.drop (j + 1) = xs ∧ x ∈ all := by
 have h1 : all[j]? = some x := by
  have := congrArg (fun l => l[0]?) hd
  simpa using this
 refine ⟨h1, ?_, List.mem_of_getElem? h1⟩
 rw [← List.tail_drop, hd]; rfl
theorem zGs {st : St} {v : SV} {all : List SV} {slot : Nat → SO} {p j : Nat} (h1 : st.led[p]? = some (slot j)) (h2 : srcT st v = some (all, slot)) : SrcK { st with led := st.led.set p (slot (j + 1)) } v all slot := by
 cases zBv h2 with
 | str y => exact .str y
 | seq hq =>
  rename_i b
  refine .seq ?_
  cases v <;> first | exact zAU hq | exact hq | skip
  ·rename_i i
   replace hq : seqO st.led[i]? = some (b, all) := hq
   show seqO (st.led.set p (SO.it b (SV.obj i) (j + 1)))[i]? = _
   by_cases hip : i = p
   ·subst hip
    rw [h1] at hq
    cases hq
   ·rw [List.getElem?_set_ne (Ne.symm hip)]
    exact hq
 | rng hi =>
  rename_i i n
  refine .rng ?_
  by_cases hip : i = p
  ·subst hip
   rw [h1] at hi; cases hi
  ·rw [show ({ st with led := st.led.set p (SO.itr n (j + 1)) } : St).led = st.led.set p (SO.itr n (j + 1)) from rfl, List.getElem?_set_ne (Ne.symm hip)]
   exact hi
theorem zGc {tgt : Expr} {body : List Stmt} {I : Addr} {bd : St → Kt → Prop} {v : SV} {all : List SV} {slot : Nat → SO} {p : Nat} {k : Kt} {Q : CR → Shared → Prop} (ok : FmOk C F)
  (hb : ∀ (E' : Value → Shared → Prop) (st : St) (k' : Kt) (ads : Wd) (s : Shared) (Q' : CR → Shared → Prop), bd st k' → Rep w F ads st s.heap → Then w F ads s k' Q' → wpAny (model prog w) F.A (execs body F.env) (fun f s' => Q' (.fl f) s') E' s)
  {R : Result → Shared → Prop} (hR : ∀ f s', Q (.fl f) s' → R (.ok f) s') : ∀ (xs : List SV) (j : Nat) (st : St) (ads : Wd) (s : Shared), forE (zAN F.sc.names tgt) bd v all slot p j xs st k → all.drop j = xs → Rep w F ads st s.heap → Den F.B ads (.obj p) (.ref I) → Then w F ads s k Q →
   codeAny (model prog w) F.A (.forLoop tgt (.ref I) body [] F.env) R s
 | [], j, st, ads, s, h, hd, Rp, dI, T => by
  obtain ⟨h1, h2, h3⟩ := h
  refine zEj (zFQ ok.hand ok Rp dI h1 h2 ?_ fun s' R' x' => ?_)
  ·rw [List.getElem?_eq_none_iff]
   rw [List.drop_eq_nil_iff] at hd; exact hd
  ·exact wpAny_execs_nil (hR _ _ (T.same (r := .next) (c := .fl .next) h3 R' x' trivial))
 | x :: xs, j, st, ads, s, h, hd, Rp, dI, T => by
  obtain ⟨h1, h2, h3⟩ := h
  obtain ⟨e1, e2, e3⟩ := zGt h2 hd
  have hplt : p < st.led.length := (List.getElem?_eq_some_iff.mp h1).1
  have hpl : st.led.length = ads.ads.length := zCN Rp
  refine zEj (zFP ok Rp dI h1 h2 e1 fun s₁ u R₁ x₁ du => ?_)
  have hp1 : (st.led.set p (slot (j + 1)))[p]? = some (slot (j + 1)) := by rw [List.getElem?_set_self hplt]
  refine zDr (v := v) (st := { st with led := st.led.set p (slot (j + 1)) }) ok R₁ dI hp1 ?_ e3 du ?_
  ·exact zGs h1 h2
  ·refine zCn ok R₁ du h3 fun st₂ s₂ h₂ R₂ x₂ => ?_
   refine hb _ st₂ _ ads s₂ (fun c s' => match c with
    | .fl f => match f with
     | .next | .cont => codeAny (model prog w) F.A (.forLoop tgt (.ref I) body [] F.env) R s'
     | .brk => R (.ok .next) s'
     | .ret v => R (.ok (.ret v)) s'
    | _ => False) h₂ R₂ ?_
   intro r st₃ m c s₃ h₃ R₃ x₃ d₃
   have xx := (x₁.trans x₂).trans x₃
   have nxt : (∃ st₄, Trim st.led.length st₃ st₄ ∧ forE (zAN F.sc.names tgt) bd v all slot p (j + 1) xs st₄ k) → codeAny (model prog w) F.A (.forLoop tgt (.ref I) body [] F.env) R s₃ := by
    rintro ⟨st₄, tr, h₄⟩
    rw [hpl] at tr
    obtain ⟨z, R₄⟩ := zEb ok R₃ tr
    exact zGc ok hb hR xs (j + 1) st₄ _ s₃ h₄ e2 R₄ dI.mono (T.later xx)
   cases r with
   | next =>
    cases c with
    | fl f => cases f <;> first | exact nxt h₃ | exact d₃.elim
    | _ => exact d₃.elim
   | cont =>
    cases c with
    | fl f => cases f <;> first | exact nxt h₃ | exact d₃.elim
    | _ => exact d₃.elim
   | ret y =>
    cases c with
    | fl f => cases f <;> first | exact d₃.elim | exact hR _ _ ((T.later (more := m) xx).same (r := .ret y) h₃ R₃ (Nx.refl _) d₃)
    | _ => exact d₃.elim
   | _ => exact h₃.elim
end
noncomputable def zUZ (k : ScopeKind) : Bool := match k with
 | .function => true
 | _ => false
noncomputable def zDl (ns all : List (Str × NameKind)) : List (Str × NameKind) → Bool
 | [] => true
 | (x, k) :: r => match k with
  | .cell => false
  | .local => kLoc (zAd x all) && zDl ns all r
  | .free => kFre (zAd x all) && (kCel (zAd x ns) && zDl ns all r)
  | _ => zDl ns all r
noncomputable def scOk (ns : List (Str × NameKind)) (sc : Scope) : Bool := match zUZ sc.kind with
 | true => zDl ns sc.names sc.names
 | false => false
theorem zDL {ns all : List (Str × NameKind)} : ∀ {l : List (Str × NameKind)}, zDl ns all l = true → ∀ x ∈ l, x.2 ≠ .cell ∧ (x.2 = .local → all.lookup x.1 = some .local) ∧ (x.2 = .free → all.lookup x.1 = some .free ∧ ns.lookup x.1 = some .cell)
 | (y, k) :: r, h, x, hx => by
  have rest : zDl ns all r = true → x ∈ r → x.2 ≠ .cell ∧ (x.2 = .local → all.lookup x.1 = some .local) ∧ (x.2 = .free → all.lookup x.1 = some .free ∧ ns.lookup x.1 = some .cell) := fun h hx => zDL h x hx
  cases k with
  | cell => exact Bool.noConfusion h
  | «local» =>
   obtain ⟨hk, h⟩ := zAO h
   rcases List.mem_cons.mp hx with rfl | hx
   ·exact ⟨nofun, fun _ => zFM hk, nofun⟩
   ·exact rest h hx
  | free =>
   obtain ⟨hk, h⟩ := zAO h
   obtain ⟨hk', h⟩ := zAO h
   rcases List.mem_cons.mp hx with rfl | hx
   ·exact ⟨nofun, nofun, fun _ => ⟨zSE hk, zJK hk'⟩⟩
   ·exact rest h hx
  | _ =>
   rcases List.mem_cons.mp hx with rfl | hx
   ·exact ⟨nofun, nofun, nofun⟩
   ·exact rest h hx
noncomputable def zBE : List (Str × NameKind) → List (Str × NameKind)
 | [] => []
 | (x, k) :: r => match k with
  | .free => (x, .cell) :: zBE r
  | k => (x, k) :: zBE r
theorem zJo {env : Env} (hk : env.scope.kind = .function) : ∀ {l : List (Str × NameKind)}, (∀ x ∈ l, x.2 = .free → env.kindOf x.1 = some .cell) → (l.map fun (n, k) => if (k == NameKind.free && env.scope.kind == .function && env.kindOf n == some .cell) then (n, NameKind.cell) else (n, k)) = zBE l
 | [], _ => rfl
 | (x, k) :: r, h => by
  have ih := zJo hk (l := r) fun y hy => h y (.tail _ hy)
  rw [List.map_cons, ih]
  cases k with
  | free =>
   have := h _ (.head _) rfl
   show (if _ then _ else _) :: _ = (x, NameKind.cell) :: zBE r
   rw [hk, this]; rfl
  | _ => rfl
theorem zCU : ∀ {l : List (Str × NameKind)} {x : Str}, (zBE l).lookup x = (l.lookup x).map fun k => match k with
  | .free => .cell
  | k => k
 | [], _ => rfl
 | (y, k) :: r, x => by
  have ih := zCU (l := r) (x := x)
  cases q : x == y with
  | true => cases k <;> simp [zBE, List.lookup_cons, q]
  | false => cases k <;> simp [zBE, List.lookup_cons, q, ih]
noncomputable def clOf (cells : List (Str × Addr)) : List (Str × NameKind) → List (Str × Addr) → List (Str × Addr)
 | [], acc => acc
 | (x, k) :: r, acc => match k with
  | .free => clOf cells r ((x, (cells.lookup x).getD 0) :: acc)
  | _ => clOf cells r acc
theorem zDd {env : Env} {scope : Scope} (h : ∀ x ∈ scope.names, x.2 = .free → ∃ a, env.cells.lookup x.1 = some a) : closureFor scope env = pure (clOf env.cells scope.names []) := by
 have key : ∀ (l : List (Str × NameKind)) (acc : List (Str × Addr)), (∀ x ∈ l, x.2 = .free → ∃ a, env.cells.lookup x.1 = some a) →
   (forIn l acc fun (x : Str × NameKind) (cs : List (Str × Addr)) => match x with
    | (name, kind) => if (kind == .free) = true then (do let a ← cellOf env name; pure (ForInStep.yield ((name, a) :: cs))) else pure (ForInStep.yield cs) : Sem (List (Str × Addr))) = pure (clOf env.cells l acc) := by
  intro l
  induction l with
  | nil => intro acc _; rfl
  | cons x r ih =>
   intro acc h
   obtain ⟨n, k⟩ := x
   rw [List.forIn_cons]
   have hr := fun acc => ih acc fun y hy => h y (.tail _ hy)
   cases k with
   | free =>
    obtain ⟨a, ha⟩ := h _ (.head _) rfl
    have e1 : cellOf env n = pure a := by unfold cellOf; rw [ha]
    show ((do let a ← cellOf env n; pure (ForInStep.yield ((n, a) :: acc))) >>= _) = _
    rw [e1]
    show (forIn r ((n, a) :: acc) _ : Sem _) = pure (clOf env.cells r ((n, (env.cells.lookup n).getD 0) :: acc))
    rw [ha]
    exact hr _
   | _ => exact hr _
 have := key scope.names [] h
 unfold closureFor
 simp only [bind_pure_comp] at this ⊢
 first
  | exact this
  | (simp only [map_pure, bind_pure] at this ⊢; exact this)
  | (rw [← this]; rfl)
theorem zCO {cells : List (Str × Addr)} {x : Str} : ∀ {l : List (Str × NameKind)} {acc : List (Str × Addr)}, (clOf cells l acc).lookup x = if (x, NameKind.free) ∈ l then some ((cells.lookup x).getD 0) else acc.lookup x
 | [], acc => by simp [clOf]
 | (y, k) :: r, acc => by
  have other : k ≠ .free → (clOf cells r acc).lookup x = if (x, NameKind.free) ∈ (y, k) :: r then some ((cells.lookup x).getD 0) else acc.lookup x := fun hk => by
   rw [zCO]
   have : ((x, NameKind.free) ∈ (y, k) :: r) ↔ (x, NameKind.free) ∈ r := by
    rw [List.mem_cons]
    exact ⟨fun h => h.resolve_left fun e => hk (by cases e; rfl), .inr⟩
   simp only [this]
  cases k with
  | free =>
   show (clOf cells r _).lookup x = _
   rw [zCO]
   by_cases hr : (x, NameKind.free) ∈ r
   ·rw [if_pos hr, if_pos (.tail _ hr)]
   ·rw [if_neg hr, List.lookup_cons]
    by_cases hy : x = y
    ·subst hy
     rw [beq_self_eq_true, if_pos (.head _)]
    ·have : (x == y) = false := beq_eq_false_iff_ne.mpr hy
     rw [this, if_neg]
     intro h
     rcases List.mem_cons.mp h with e | h
     ·cases e; exact hy rfl
     ·exact hr h
  | _ => exact other (by simp)
noncomputable def zBQ (loc : List (Str × SV)) : List (Str × NameKind) → List (Str × SV)
 | [] => []
 | (x, k) :: r => match k with
  | .free => match lk x loc with
   | some v => (x, v) :: zBQ loc r
   | none => zBQ loc r
  | _ => zBQ loc r
theorem zDv {loc : List (Str × SV)} {x : Str} {v : SV} : ∀ {l : List (Str × NameKind)}, lk x (zBQ loc l) = some v → lk x loc = some v ∧ (x, NameKind.free) ∈ l
 | [], h => by cases h
 | (y, k) :: r, h => by
  have other : lk x (zBQ loc r) = some v → lk x loc = some v ∧ (x, NameKind.free) ∈ (y, k) :: r := fun h => ⟨(zDv h).1, .tail _ (zDv h).2⟩
  cases k with
  | free =>
   unfold zBQ at h
   dsimp only at h
   split at h
   ·rename_i u hu
    unfold lk at h
    cases q : Fast.sEq x y with
    | true =>
     rw [q] at h; cases h
     have := zAQ q; subst this
     exact ⟨hu, .head _⟩
    | false => rw [q] at h; exact other h
   ·exact other h
  | _ => exact other h
section
variable {w : World} {C : Cf} {F : Fm} {ads : Wd} {s : Shared} {st : St} {A : Around} {E : Value → Shared → Prop}
theorem zGI {ns : List (Str × NameKind)} {sc : Scope} (h : scOk ns sc = true) : sc.kind = .function ∧ ∀ x ∈ sc.names, x.2 ≠ .cell ∧ (x.2 = .local → sc.names.lookup x.1 = some .local) ∧ (x.2 = .free → sc.names.lookup x.1 = some .free ∧ ns.lookup x.1 = some .cell) := by
 unfold scOk at h
 split at h
 ·rename_i hk
  refine ⟨?_, zDL h⟩
  cases q : sc.kind <;> first | rfl | (rw [q] at hk; exact Bool.noConfusion hk)
 ·cases h
theorem zLV {sc : Scope} {o0 : Obj} {h₁ : Heap} (ok : FmOk C F) (hsc : scOk F.sc.names sc = true) (R : Rep w F ads st s.heap) (hns : h₁.Ns s.heap.objs.size (fun x => ([] : List (Str × Value)).reverse.lookup x)) (hsb : Heap.SameBut s.heap.objs.size (s.heap.push o0) h₁) :
  ∃ F' : Fm, FmOk C F' ∧ F'.A = F.A ∧ F'.env = compEnvC sc (clOf F.env.cells sc.names []) s.heap.objs.size F.env ∧ (F'.B = F.B ∧ F'.quiet = F.quiet) ∧ F'.sc.names = zBE sc.names ∧ Rep w F' ads ⟨zBQ st.loc sc.names, st.led⟩ h₁ ∧
   (∀ W loc' loc₂ led' h' h'', Rep w F' W ⟨loc', led'⟩ h' → (∀ b o, b ≠ s.heap.objs.size → h'.get? b = some o → h''.get? b = some o) → (∀ x y, lk x loc₂ = some y → ∃ z, lk x st.loc = some z ∧ ∀ v, Den F.B ads z v → Den F.B W y v) → Rep w F W ⟨loc₂, led'⟩ h'') ∧ (∀ W st' h', Rep w F' W st' h' → ∃ m, h'.Ns s.heap.objs.size m) := by
 obtain ⟨hk, hn⟩ := zGI hsc
 obtain ⟨m, news, lw, X⟩ := R
 obtain ⟨oL, es, ep, hL, hLd, hLk, hLf⟩ := X.fr.ns
 have hF0 : F.h₀.get? F.L = none := by
  cases q : F.h₀.get? F.L with
  | none => rfl
  | some o => exact absurd (Heap.lt_size q) (Nat.not_lt.mpr X.fr.above)
 let all : List (Addr × Obj) := news ++ (ads.fz ++ ((F.L, oL) :: lw))
 have pmA : all.Perm ((F.L, oL) :: (news ++ (ads.fz ++ lw))) := by
  show (news ++ (ads.fz ++ ((F.L, oL) :: lw))).Perm _
  rw [← List.append_assoc, ← List.append_assoc]
  exact List.perm_middle
 have nwA : ∀ p ∈ all, s.heap.get? p.1 = some p.2 ∧ F.h₀.get? p.1 = none := fun p hp => by
  rcases List.mem_cons.mp (pmA.mem_iff.mp hp) with rfl | q
  ·exact ⟨hL, hF0⟩
  ·exact ⟨(X.nw p q).1, (X.nw p q).2.2⟩
 have ndA : (all.map (·.1)).Nodup := by
  refine (pmA.map (·.1)).nodup_iff.mpr (List.nodup_cons.mpr ⟨fun q => ?_, X.nd⟩)
  obtain ⟨p, hp, e⟩ := List.mem_map.mp q
  exact (X.nw p hp).2.1 e
 have nm : ∀ b o, F.h₀.get? b = some o → b ∉ all.map (·.1) := fun b o e q => by
  obtain ⟨p, hp, rfl⟩ := List.mem_map.mp q
  rw [(nwA p hp).2] at e; cases e
 have stay : F.h₀.StaysIn (hideAll s.heap (all.map (·.1))) := fun b o e => hideAll_get _ (X.fr.keep b o e) (nm b o e)
 have hk₁ : ∀ b o, s.heap.get? b = some o → h₁.get? b = some o := fun b o e => hsb.extBut b o (Nat.ne_of_lt (Heap.lt_size e)) (Heap.get?_push_of_some _ e)
 let cl := clOf F.env.cells sc.names []
 let en : Env := compEnvC sc cl s.heap.objs.size F.env
 have hrel : (relabel sc F.env).names = zBE sc.names := zJo (show F.env.scope.kind = _ from ok.kind) fun x hx hf => ((hn x hx).2.2 hf).2
 let F' : Fm := ⟨F.B, hideAll s.heap (all.map (·.1)), s.heap.objs.size, en, F.A, F.stk, (F.L, oL) :: lw, F.quiet⟩
 have clk : ∀ x, (x, NameKind.free) ∈ sc.names → ∃ a, F.env.cells.lookup x = some a ∧ cl.lookup x = some a := fun x hx => by
  obtain ⟨a, ha⟩ := ok.cel2 x ((hn _ hx).2.2 rfl).2
  refine ⟨a, ha, ?_⟩
  show (clOf F.env.cells sc.names []).lookup x = some a
  rw [zCO, if_pos hx, ha]; rfl
 have cnone : ∀ x, sc.names.lookup x = some .local → cl.lookup x = none := fun x hx => by
  show (clOf F.env.cells sc.names []).lookup x = none
  rw [zCO, if_neg]
  ·rfl
  ·intro hm
   rw [((hn _ hm).2.2 rfl).1] at hx; cases hx
 have ok' : FmOk C F' := by
  refine ⟨ok.X.keeps stay, ok.G.keeps stay, fun b o e => stay b o (ok.stay b o e), hk, ok.hand, ok.stack, ok.loud, (ok.low.ups X.ups).inner (fun vs q => by rw [hLd] at q; cases q), rfl, ok.gl, ok.bi, fun x hx => ?_, fun x hx => ?_⟩
  ·have hx' : (zBE sc.names).lookup x = some .local := hrel ▸ hx
   rw [zCU, Option.map_eq_some_iff] at hx'
   obtain ⟨k, h1, h2⟩ := hx'
   cases k <;> first | exact cnone x h1 | cases h2
  ·have hx' : (zBE sc.names).lookup x = some .cell := hrel ▸ hx
   rw [zCU, Option.map_eq_some_iff] at hx'
   obtain ⟨k, h1, h2⟩ := hx'
   cases k with
   | free =>
    obtain ⟨a, _, q⟩ := clk x (mem_of_lookup h1)
    exact ⟨a, q⟩
   | cell => exact absurd rfl (hn _ (mem_of_lookup h1)).1
   | _ => cases h2
 refine ⟨F', ok', rfl, rfl, ⟨rfl, rfl⟩, hrel, ?_, ?_, ?_⟩
 ·refine ⟨_, news, (F.L, oL) :: lw, ⟨hns, fun b o q => hk₁ b o (of_hideAll _ q), Nat.le_of_eq (hideAll_size _ _)⟩, fun p hp => ⟨hk₁ _ _ (nwA p hp).1, Nat.ne_of_lt (Heap.lt_size (nwA p hp).1), hideAll_none _ (List.mem_map_of_mem hp)⟩, ?_, X.led, ndA, Ups.refl _⟩
  intro x sv hx
  obtain ⟨h1, h2⟩ := zDv hx
  obtain ⟨v, e1, e2⟩ := X.loc x sv h1
  obtain ⟨a, q1, q2⟩ := clk x h2
  refine ⟨v, ?_, e2⟩
  unfold locM at e1 ⊢
  rw [q1] at e1
  show (match cl.lookup x with | some a => _ | none => _) = _
  rw [q2]; exact e1
 ·intro W loc' loc₂ led' h' h'' R1 hs hloc
  obtain ⟨m', news', lw', X'⟩ := R1
  have u := X'.ups
  have nw' := X'.nw
  have nd' := X'.nd
  have keepC : ∀ b o, b ≠ s.heap.objs.size → h'.get? b = some o → h''.get? b = some o := hs
  have notC : ∀ b o, s.heap.get? b = some o → b ≠ s.heap.objs.size := fun b o e => Nat.ne_of_lt (Heap.lt_size e)
  cases u with
  | cons u =>
   rename_i sl lw₂
   have pm : (news' ++ (W.fz ++ ((F.L, { oL with slots := sl }) :: lw₂))).Perm ((F.L, { oL with slots := sl }) :: (news' ++ (W.fz ++ lw₂))) := by
    rw [← List.append_assoc, ← List.append_assoc]
    exact List.perm_middle
   have nd2 := (pm.map (·.1)).nodup_iff.mp nd'
   rw [List.map_cons, List.nodup_cons] at nd2
   have hLn := (nw' _ (pm.mem_iff.mpr (.head _))).1
   refine ⟨m, news', lw₂, ⟨⟨_, es, ep, keepC _ _ (notC _ _ hL) hLn, hLd, hLk, hLf⟩, fun b o q => keepC _ _ (notC _ _ (X.fr.keep b o q)) (X'.fr.keep b o (stay b o q)), X.fr.above⟩, fun p hp => ⟨?_, fun q => ?_, ?_⟩, fun x y hx => let ⟨z, a, b⟩ := hloc x y hx; let ⟨v, c, d⟩ := X.loc x z a; ⟨v, c, b v d⟩, X'.led, nd2.2, X.ups.trans u⟩
   ·have z := nw' p (pm.mem_iff.mpr (.tail _ hp))
    exact keepC _ _ z.2.1 z.1
   ·exact nd2.1 (List.mem_map.mpr ⟨p, hp, q⟩)
   ·cases q : F.h₀.get? p.1 with
    | none => rfl
    | some o =>
     have hz : (hideAll s.heap (all.map (·.1))).get? p.1 = none := (nw' p (pm.mem_iff.mpr (.tail _ hp))).2.2
     rw [stay _ _ q] at hz; cases hz
 ·intro W st' h' R1
  obtain ⟨m', news', lw', X'⟩ := R1
  exact ⟨m', X'.fr.ns⟩
theorem zIX {elt target iter : Expr} {ifs : List Expr} {scope : Scope} {pos : Pos} {it acc : Value} {env : Env} {R : Result → Shared → Prop}
  (turn : wpAny (model prog w) A (pyNext it) (fun r s₁ => match r with
   | none => R (.ok .next) s₁
   | some v => wpAny (model prog w) A (letOwnedTupleGo target it v) (fun _ s₁' => wpAny (model prog w) A (assign target env v) (fun _ s₂ =>
     wpAny (model prog w) A (forIn ifs true fun c r => if r = true then do let ok ← isTrue c env (eval c env); pure (ForInStep.yield ok) else pure (ForInStep.yield r)) (fun ok s₃ =>
      if ok = true then wpAny (model prog w) A (eval elt env) (fun x s₄ =>
       wpAny (model prog w) A (call (.builtin "list.append") [acc, x]) (fun _ s₅ => codeAny (model prog w) A (.compLoop (.ListComp elt [⟨target, iter, ifs, 0⟩] scope pos) 0 it acc env) R s₅) (notedBy (model prog w) A env fun e s' => R (.error e) s') s₄) (notedBy (model prog w) A env fun e s' => R (.error e) s') s₃
      else codeAny (model prog w) A (.compLoop (.ListComp elt [⟨target, iter, ifs, 0⟩] scope pos) 0 it acc env) R s₃) (notedBy (model prog w) A env fun e s' => R (.error e) s') s₂) (notedBy (model prog w) A env fun e s' => R (.error e) s') s₁') (notedBy (model prog w) A env fun e s' => R (.error e) s') s₁) (notedBy (model prog w) A env fun e s' => R (.error e) s') s) :
  codeAny (model prog w) A (.compLoop (.ListComp elt [⟨target, iter, ifs, 0⟩] scope pos) 0 it acc env) R s := by
 refine codeAny_of_tree ?_
 show wpAny _ A ((compTurn (.ListComp elt [⟨target, iter, ifs, 0⟩] scope pos) 0 it acc env).onRaise (fun x => do noteFrame x env; theTreesLotGoes x)) _ _ s
 refine wpAny_noted ?_
 rw [compTurn_list]
 refine wpAny_bind (wpAny_standAt (wpAny_bind (wpAny_mono turn (fun r s₁ h₁ => ?_) fun _ _ h' => h')))
 cases r with
 | none => exact wpAny_pure h₁
 | some v =>
  refine wpAny_bind (wpAny_mono h₁ (fun _ s₁' h₁' => ?_) fun _ _ h' => h')
  refine wpAny_bind (wpAny_mono h₁' (fun _ s₂ h₂ => wpAny_bind (wpAny_mono h₂ (fun ok s₃ h₃ => ?_) fun _ _ h' => h')) fun _ _ h' => h')
  cases ok with
  | false =>
   simp only [Bool.false_eq_true, if_false] at h₃ ⊢
   first
    | exact wpAny_pure ⟨rfl, h₃⟩
    | exact wpAny_bind (wpAny_pure (wpAny_pure ⟨rfl, h₃⟩))
  | true =>
   simp only [if_true] at h₃ ⊢
   refine wpAny_bind (wpAny_bind (wpAny_mono h₃ (fun x s₄ h₄ => wpAny_bind (wpAny_mono h₄ (fun _ s₅ h₅ => wpAny_pure (wpAny_pure ⟨rfl, h₅⟩)) fun _ _ h' => h')) fun _ _ h' => h'))
end
section
variable {w : World} {C : Cf} {F : Fm} {ads : Wd} {s : Shared} {st : St} {A : Around} {E : Value → Shared → Prop}
noncomputable def EvOk (w : World) (F : Fm) (e : Expr) (ev : St → Kt → Prop) : Prop := ∀ (E' : Value → Shared → Prop) (st : St) (k' : Kt) (ads : Wd) (s : Shared) (Q' : CR → Shared → Prop), ev st k' → Rep w F ads st s.heap → Then w F ads s k' Q' → wpAny (model prog w) F.A (eval e F.env) (fun v s' => Q' (.v v) s') E' s
noncomputable def TrOk (w : World) (F : Fm) (e : Expr) (ev : St → Kt → Prop) : Prop := ∀ (E' : Value → Shared → Prop) (st : St) (k' : Kt) (ads : Wd) (s : Shared) (Q' : CR → Shared → Prop), ev st k' → Rep w F ads st s.heap → Then w F ads s k' Q' → wpAny (model prog w) F.A (PySem.isTrue e F.env (eval e F.env)) (fun b s' => Q' (.b b) s') E' s
inductive IfsOk (w : World) (F : Fm) : List Expr → Option (St → Kt → Prop) → Prop
 | none : IfsOk w F [] none
 | one {c : Expr} {t : St → Kt → Prop} : TrOk w F c t → IfsOk w F [c] (some t)
theorem zIk {ifs : List Expr} {test : Option (St → Kt → Prop)} {k : Bool → St → Prop} {Q : Bool → Shared → Prop} (ht : IfsOk w F ifs test) (R : Rep w F ads st s.heap) (h : zCo test st k)
  (hQ : ∀ c st' more s', k c st' → Rep w F (wa ads more) st' s'.heap → Nx F s s' → Q c s') :
  wpAny (model prog w) F.A (forIn ifs true fun c r => if r = true then do let ok ← isTrue c F.env (eval c F.env); pure (ForInStep.yield ok) else pure (ForInStep.yield r)) Q E s := by
 cases ht with
 | none => exact wpAny_tests_nil (hQ true st .nil s h (by rw [Wd.append_nil]; exact R) (Nx.refl s))
 | one hc =>
  refine wpAny_tests_one (hc E st _ ads s (fun c s' => match c with | .b c => Q c s' | _ => False) h R ?_)
  intro r st₁ m1 c s₁ h₁ R₁ x₁ d₁
  cases r with
  | b c' =>
   cases c with
   | b c => cases d₁; exact hQ _ _ _ _ h₁ R₁ x₁
   | _ => exact d₁.elim
  | _ => exact h₁.elim
theorem zFe {tgt iter elt : Expr} {ifs : List Expr} {sc : Scope} {pos : Pos} {I a : Addr} {el : St → Kt → Prop} {test : Option (St → Kt → Prop)} {v : SV} {all : List SV} {slot : Nat → SO} {p q : Nat} {k : St → Prop} (ok : FmOk C F)
  (he : EvOk w F elt el) (ht : IfsOk w F ifs test) (hpq : p < q) {R : Result → Shared → Prop} : ∀ (xs : List SV) (j : Nat) (st : St) (ads : Wd) (s : Shared), zBZ (zAN F.sc.names tgt) test el v all slot p q j xs st k → all.drop j = xs → Rep w F ads st s.heap → Den F.B ads (.obj p) (.ref I) → Den F.B ads (.obj q) (.ref a) →
   (∀ more st' s', k st' → Rep w F (wa ads more) st' s'.heap → Nx F s s' → R (.ok .next) s') →
   codeAny (model prog w) F.A (.compLoop (.ListComp elt [⟨tgt, iter, ifs, 0⟩] sc pos) 0 (.ref I) (.ref a) F.env) R s
 | [], j, st, ads, s, h, hd, Rp, dI, da, fin => by
  obtain ⟨h1, h2, h3⟩ := h
  refine zIX (zFQ ok.hand ok Rp dI h1 h2 ?_ fun s' R' x' => ?_)
  ·rw [List.getElem?_eq_none_iff]
   rw [List.drop_eq_nil_iff] at hd; exact hd
  ·exact fin .nil _ s' h3 (by rw [Wd.append_nil]; exact R') x'
 | x :: xs, j, st, ads, s, h, hd, Rp, dI, da, fin => by
  obtain ⟨h1, h2, h3⟩ := h
  obtain ⟨e1, e2, e3⟩ := zGt h2 hd
  have hplt : p < st.led.length := (List.getElem?_eq_some_iff.mp h1).1
  have hpl : st.led.length = ads.ads.length := zCN Rp
  have nxt : ∀ (st₃ : St) (m : Wd) (s₃ : Shared), Nx F s s₃ → Rep w F (wa ads m) st₃ s₃.heap → (∃ st₅, Trim st.led.length st₃ st₅ ∧ zBZ (zAN F.sc.names tgt) test el v all slot p q (j + 1) xs st₅ k) → codeAny (model prog w) F.A (.compLoop (.ListComp elt [⟨tgt, iter, ifs, 0⟩] sc pos) 0 (.ref I) (.ref a) F.env) R s₃ := by
   rintro st₃ m s₃ xx R₃ ⟨st₄, tr, h₄⟩
   rw [hpl] at tr
   obtain ⟨z, R₄⟩ := zEb ok R₃ tr
   exact zFe ok he ht hpq xs (j + 1) st₄ _ s₃ h₄ e2 R₄ dI.mono da.mono fun more st' s' hk R' x' => fin (wa (⟨[], z⟩) more) st' s' hk (by rw [← Wd.append_assoc]; exact R') (xx.trans x')
  refine zIX (zFP ok Rp dI h1 h2 e1 fun s₁ u R₁ x₁ du => ?_)
  have hp1 : (st.led.set p (slot (j + 1)))[p]? = some (slot (j + 1)) := by rw [List.getElem?_set_self hplt]
  refine zDr (v := v) (st := { st with led := st.led.set p (slot (j + 1)) }) ok R₁ dI hp1 (zGs h1 h2) e3 du ?_
  refine zCn ok R₁ du h3 fun st₂ s₂ h₂ R₂ x₂ => ?_
  refine zIk ht R₂ h₂ fun c st₃ m1 s₃ h₃ R₃ x₃ => ?_
  have z := zBY h₃
  have xx := (x₁.trans x₂).trans x₃
  split
  ·rename_i hct
   refine he _ st₃ _ (wa ads m1) s₃ (fun c s' => match c with
    | .v y => wpAny (model prog w) F.A (call (.builtin "list.append") [.ref a, y]) (fun _ s₅ => codeAny (model prog w) F.A (.compLoop (.ListComp elt [⟨tgt, iter, ifs, 0⟩] sc pos) 0 (.ref I) (.ref a) F.env) R s₅) _ s'
    | _ => False) (z.1 hct) R₃ ?_
   intro r st₄ m2 c s₄ h₄ R₄ x₄ d₄
   cases r with
   | v y =>
    cases c with
    | v u' =>
     obtain ⟨ys, hq, hl, h₅⟩ := zCl h₄
     refine zEM R₄ (da.mono.mono) hq d₄ hl fun h' R₅ => ?_
     refine nxt _ (wa m1 m2) { s₄ with heap := h' } (xx.trans (x₄.trans (Nx.of_gens rfl rfl rfl))) ?_ h₅
     rw [← Wd.append_assoc]; exact R₅
    | _ => exact d₄.elim
   | _ => exact h₄.elim
  ·rename_i hct
   exact nxt st₃ m1 s₃ xx R₃ (z.2 (by simpa using hct))
noncomputable def zAg (loc : List (Str × SV)) (p q : Nat) (stE : St) (k : SV → St → Prop) : Prop := ∃ ys ds st', stE.led[q]? = some (.list ys) ∧ frzs ys = some ds ∧ ds.length ≤ sizeLine ∧ Trim p ⟨loc, stE.led⟩ st' ∧ k (.dat (.list ds)) st'
theorem zFT {led : List SO} : ∀ {xs : List SV} {ds : List PyData}, frzs xs = some ds → FrzL led xs ds
 | [], _, h => by cases h; exact .nil
 | x :: xs, _, h => by
  unfold frzs at h
  split at h
  ·rename_i d hd
   split at h
   ·rename_i ds hds
    cases h
    refine .cons ?_ (zFT hds)
    cases x with
    | none => cases hd; exact .none
    | bool b => cases hd; exact .bool b
    | int i => cases hd; exact .int i
    | str s => cases hd; exact .str s
    | sg c es fs => cases hd; exact .sg c es fs
    | dat d => cases hd; exact .dat d
    | _ => cases hd
   ·cases h
  ·cases h
theorem zJy {p q : Nat} {led : List SO} (h : p ≤ q) : (mask p led)[q]? = led[q]? := by
 unfold mask
 rw [List.getElem?_append_right (by rw [List.length_replicate]; exact h), List.length_replicate, List.getElem?_drop]
 congr 1; omega
theorem zLU {tgt iter elt : Expr} {ifs : List Expr} {sc : Scope} {pos : Pos} {use : Option (Value → Sem Unit)} {ksrc : SV → St → Prop} {k : SV → St → Prop} {Q : Value → Shared → Prop} (ok : FmOk C F) (hsc : scOk F.sc.names sc = true)
  (hset : ∀ x, foldedSetIterable iter F.env x = pure x)
  (hiter : ∀ Q' : CR → Shared → Prop, Then w F ads s (fun r st' => match r with | .v x => ksrc x st' | _ => False) Q' → wpAny (model prog w) F.A (eval iter F.env) (fun v s' => Q' (.v v) s') E s)
  (hsrc : ∀ v st₁, ksrc v st₁ → ∃ all slot el test, srcT st₁ v = some (all, slot) ∧
   zBZ (zAN (zBE sc.names) tgt) test el v all slot st₁.led.length (st₁.led.length + 1) 0 all ⟨zBQ st₁.loc sc.names, st₁.led ++ [slot 0, .list []]⟩ (fun stE => zAg st₁.loc st₁.led.length (st₁.led.length + 1) stE k) ∧
   (∀ F' : Fm, FmOk C F' → F'.A = F.A → F'.sc.names = zBE sc.names → EvOk w F' elt el ∧ IfsOk w F' ifs test))
  (hfin : ∀ (m1 z : Wd) (st' : St) (d : PyData) (a Cc : Addr) (s' : Shared), k (.dat d) st' → Nx F s s' → (∃ m, s'.heap.Ns Cc m) → F.L ≠ Cc → Rep w F (wa (wa ads m1) z) st' (hideAll s'.heap [Cc]) → Den F.B (wa (wa ads m1) z) (.dat d) (.ref a) →
   compPost (model prog w) F.A E use Q (.ref a) Cc (.ok .next) s') :
  wpAny (model prog w) F.A (comprehension (.ListComp elt [⟨tgt, iter, ifs, 0⟩] sc pos) sc F.env iter.pos (newList []) false (eval iter F.env) use) Q E s := by
 obtain ⟨hk, hn⟩ := zGI hsc
 refine wpAny_comprehension_free (g := ⟨tgt, iter, ifs, 0⟩) (gs := []) (cl := clOf F.env.cells sc.names []) rfl hset (zDd fun x hx hf => ok.cel2 x.1 ((hn x hx).2.2 hf).2) hk (fun x hx hl => (hn x hx).2.1 hl) ?_
 refine hiter (fun c s' => match c with
  | .v x => wpAny (model prog w) F.A (pyIter x) _ E s'
  | _ => False) ?_
 intro r st₁ m1 c s₁ h₁ R₁ x₁ d₁
 cases r with
 | v src =>
  cases c with
  | v u =>
   obtain ⟨all, slot, el, test, hs, hc, hev⟩ := hsrc src st₁ h₁
   refine zDq ok R₁ d₁ hs fun s₂ R₂ x₂ => ?_
   refine wpAny_newObj_type ?_
   generalize hp : s₁.heap.objs.size = I at R₂
   have R₃ : Rep w F (wa (wa (wa ads m1) (.one I 0)) (.one s₂.heap.objs.size 0)) { st₁ with led := st₁.led ++ [slot 0] ++ [.list []] } (s₂.heap.push { cls := .type "list", dict := none, data := .seq ([] : List Value).toArray }) :=
    zBK (st := { st₁ with led := st₁.led ++ [slot 0] }) (o := { cls := .type "list", dict := none, data := .seq ([] : List Value).toArray }) rfl R₂ (One.list (vs := []) (n := 0) .nil)
   generalize hs3 : ({ s₂ with heap := s₂.heap.push { cls := .type "list", dict := none, data := .seq ([] : List Value).toArray } } : Shared) = s₃
   have hh3 : s₃.heap = s₂.heap.push { cls := .type "list", dict := none, data := .seq ([] : List Value).toArray } := by rw [← hs3]
   have x₃ : Nx F s₂ s₃ := by rw [← hs3]; exact Nx.of_gens rfl rfl rfl
   rw [← hh3] at R₃
   have len1 : st₁.led.length = (wa ads m1).ads.length := zCN R₁
   refine wpAny_newFunctionEnv (fun x hx => (hn x hx).1) (by intro y hy; simp at hy) (fun h₁' hns hsb => ?_) hk
   obtain ⟨F', ok', eA, eE, ⟨eB, eQ⟩, eN, R₄, back, nsC⟩ := zLV ok hsc R₃ hns hsb
   obtain ⟨hel, hif⟩ := hev F' ok' eA eN
   show codeAny (model prog w) F.A (.compStart _ 0 (.ref I) (.ref s₂.heap.objs.size) (compEnvC sc (clOf F.env.cells sc.names []) s₃.heap.objs.size F.env)) (compPost (model prog w) F.A E use Q (.ref s₂.heap.objs.size) s₃.heap.objs.size) _
   rw [← eE, ← eA]
   let p := st₁.led.length
   have e12 : st₁.led ++ [slot 0] ++ [SO.list []] = st₁.led ++ [slot 0, .list []] := by simp
   rw [e12] at R₄ back
   have dI : Den F'.B (wa (wa (wa ads m1) (.one I 0)) (.one s₂.heap.objs.size 0)) (.obj p) (.ref I) := by
    refine Den.mono ⟨(I, 0), ?_, rfl⟩
    show (wa (wa ads m1) (Wd.one I 0)).ads[st₁.led.length]? = _
    rw [len1]; rw [Wd.ads_append]; simp [Wd.one]
   have dq : Den F'.B (wa (wa (wa ads m1) (.one I 0)) (.one s₂.heap.objs.size 0)) (.obj (p + 1)) (.ref s₂.heap.objs.size) := by
    refine ⟨(s₂.heap.objs.size, 0), ?_, rfl⟩
    have : st₁.led.length + 1 = (wa (wa ads m1) (Wd.one I 0)).ads.length := by rw [Wd.ads_append, List.length_append, ← len1]; rfl
    show (wa (wa (wa ads m1) (Wd.one I 0)) (Wd.one s₂.heap.objs.size 0)).ads[st₁.led.length + 1]? = _
    rw [this, Wd.ads_append]; simp [Wd.one]
   have hslot : (st₁.led ++ [slot 0, SO.list []])[p]? = some (slot 0) := by simp [p]
   have hsrc2 : SrcK ⟨zBQ st₁.loc sc.names, st₁.led ++ [slot 0, .list []]⟩ src all slot ∧ srcT ⟨zBQ st₁.loc sc.names, st₁.led ++ [slot 0, .list []]⟩ src = some (all, slot) := by
    have : srcT ⟨zBQ st₁.loc sc.names, st₁.led ++ [slot 0, .list []]⟩ src = some (all, slot) := by
     cases src <;> first | exact hs | skip
     ·rename_i i
      replace hs : srcO (.obj i) st₁.led[i]? = some (all, slot) := hs
      have hlt : i < st₁.led.length := by
       cases q : st₁.led[i]? with
       | none => rw [q] at hs; cases hs
       | some o => exact (List.getElem?_eq_some_iff.mp q).1
      show srcO (.obj i) (st₁.led ++ [slot 0, SO.list []])[i]? = _
      rw [List.getElem?_append_left hlt]
      exact hs
    exact ⟨zBv this, this⟩
   have loop : ∀ s₄ : Shared, s₄.heap = h₁' → Nx F s s₄ → codeAny (model prog w) F'.A (.compLoop (.ListComp elt [⟨tgt, iter, ifs, 0⟩] sc pos) 0 (.ref I) (.ref s₂.heap.objs.size) F'.env) (compPost (model prog w) F'.A E use Q (.ref s₂.heap.objs.size) s₃.heap.objs.size) s₄ := by
    intro s₄ e4 x4
    refine zFe (F := F') ok' hel hif (p := p) (q := p + 1) (Nat.lt_succ_self _) all 0 _ _ s₄ (by rw [eN]; exact hc) rfl (by rw [e4]; exact R₄) dI dq fun more stE s₅ hf R₅ x₅ => ?_
    obtain ⟨ys, ds, st', hq, hy, hl, tr, hk'⟩ := hf
    rw [eA]
    obtain ⟨oL, hoL⟩ := zRb R₁
    obtain ⟨mC, hC⟩ := nsC _ _ _ R₅
    have W0 : (wa (wa (wa (wa ads m1) (.one I 0)) (.one s₂.heap.objs.size 0)) more) = (wa (wa ads m1) (wa (wa (Wd.one I 0) (.one s₂.heap.objs.size 0)) more)) := by simp only [Wd.append_assoc]
    have tr' : Trim (wa ads m1).ads.length ⟨st₁.loc, stE.led⟩ st' := by rw [← len1]; exact tr
    have fz : SvT (wa ads m1).ads.length stE.led (.obj (p + 1)) (svOf (.list ds)) := by
     refine .frz (.list (xs := ys) ?_ ?_ (zFT hy))
     ·rw [← len1, zJy (Nat.le_succ _)]; exact hq
     ·have : ys.length = ds.length := by
       have := FrzL.length (zFT (led := []) hy); exact this.symm
      omega
    have dq' : Den F.B (wa (wa ads m1) (wa (wa (Wd.one I 0) (.one s₂.heap.objs.size 0)) more)) (.obj (p + 1)) (.ref s₂.heap.objs.size) := by
     rw [← W0, ← eB]; exact dq.mono
    rw [W0] at R₅
    obtain ⟨z, R₆, den⟩ := zEw (st' := ⟨[], st'.led⟩) ok' R₅ ⟨(fun x y h => nomatch h), tr'.led⟩
    rw [eB] at den
    have bk : Rep w F (wa (wa ads m1) (⟨[], z⟩ : Wd)) st' (hideAll s₅.heap [s₃.heap.objs.size]) :=
     back _ [] st'.loc st'.led s₅.heap _ R₆ (fun b o hb e => hideAll_get _ e (by simpa using hb)) fun x y hx => by
      obtain ⟨z0, a, b⟩ := tr'.loc x y hx
      refine ⟨z0, a, fun v d => den z0 y v b ?_⟩
      rw [← W0]; exact d.mono
    exact hfin m1 ⟨[], z⟩ st' (.list ds) s₂.heap.objs.size s₃.heap.objs.size s₅ hk' (x4.trans (show NxB F.quiet s₄ s₅ by rw [← eQ]; exact x₅)) ⟨mC, hC⟩ (by
     obtain ⟨oL', hL'⟩ := zRb R₃
     exact Nat.ne_of_lt (Heap.lt_size hL')) bk (den _ _ _ fz dq')
   have x4 : ∀ h t, Nx F s ({ s₃ with heap := h, toks := t } : Shared) := fun h t => ((x₁.trans x₂).trans x₃).trans (Nx.of_gens rfl rfl rfl)
   refine codeAny_compStart_list (loop _ rfl (x4 _ _)) ?_
   refine zLM (s := { s₃ with heap := h₁', toks := _ }) ok' R₄ dI hslot hsrc2.2 ?_
   exact loop _ rfl (x4 _ _)
  | _ => exact d₁.elim
 | _ => exact h₁.elim
theorem zGJ {st : St} {W : Wd} {h h'' : Heap} {Cc : Addr} (R : Rep w F W st (hideAll h [Cc])) (hs : Heap.SameBut Cc h h'') : Rep w F W st h'' := by
 refine zEc R fun b o e => ?_
 have hb : b ≠ Cc := fun q => by
  subst q
  rw [hideAll_none _ (by simp)] at e; cases e
 exact (hs.2 b hb).trans (of_hideAll _ e)
theorem zGw {st : St} {x : Str} {v : SV} {u : Value} {W : Wd} {Cc : Addr} {Q : Unit → Shared → Prop} (ok : FmOk C F) (R : Rep w F W st (hideAll s.heap [Cc])) (hC : ∃ m, s.heap.Ns Cc m) (hne : F.L ≠ Cc) (d : Den F.B W v u) (hl : F.sc.names.lookup x = some .local)
  (h : ∀ h₁ t, (∃ m, h₁.Ns Cc m) → (∀ h'', Heap.SameBut Cc h₁ h'' → Rep w F W { st with loc := put x v st.loc } h'') → Q () { s with heap := h₁, toks := t }) : wpAny (model prog w) F.A (storeName F.env x u) Q E s := by
 obtain ⟨m, news, lw, X⟩ := R
 have notC : ∀ b o, (hideAll s.heap [Cc]).get? b = some o → b ≠ Cc := fun b o e q => by
  subst q
  rw [hideAll_none _ (by simp)] at e; cases e
 have nsL : s.heap.Ns F.L m := X.fr.ns.at' fun o q => of_hideAll _ q
 have ns : s.heap.Ns F.env.locals m := by rw [ok.loc]; exact nsL
 refine wpAny_storeName_local hl ns (fun h₁ hn hs => ?_) (by rw [show F.env.scope.kind = .function from ok.kind]; rfl)
 rw [ok.loc] at hn hs
 obtain ⟨mC, hmC⟩ := hC
 refine h h₁ _ ⟨mC, hmC.sameBut hs (Ne.symm hne)⟩ fun h'' hs'' => ?_
 have keep : ∀ b o, b ≠ F.L → (hideAll s.heap [Cc]).get? b = some o → h''.get? b = some o := fun b o hb e => (hs''.2 b (notC b o e)).trans ((hs.2 b hb).trans (of_hideAll _ e))
 refine ⟨_, news, lw, ⟨hn.sameBut hs'' hne, fun b o q => keep b o (fun e => ?_) (X.fr.keep b o q), X.fr.above⟩, fun p hp => ?_, ?_, X.led, X.nd, X.ups⟩
 ·subst e
  exact absurd (Heap.lt_size q) (Nat.not_lt.mpr X.fr.above)
 ·have z := X.nw p hp
  exact ⟨keep _ _ z.2.1 z.1, z.2⟩
 ·have e : locM F.env (fun y => if y = x then some u else m y) = fun y => if y = x then some u else locM F.env m y := by
   funext y
   unfold locM
   by_cases q : y = x
   ·subst q; rw [ok.cel y hl]
   ·simp only [if_neg q]
  rw [e]
  exact X.loc.set d
end
section
variable {w : World} {C : Cf} {F : Fm} {ads : Wd} {s : Shared} {st : St} {A : Around} {E : Value → Shared → Prop}
theorem zIT {o : Obj} {kvs : List (Str × Value)} (h : DicO w.params o kvs) : o.IsDictOf (strKind prog w) kvs := by
 obtain ⟨p', w', e, es, ep, h1, h2, h3, h4, h5⟩ := h
 have hh : ∀ x, hashStr w' x = hashStr w x := fun x => by unfold hashStr; rw [e]
 refine ⟨es, ep, h1, h2, ?_, ?_, h5⟩
 ·intro e he
  obtain ⟨k, a, b⟩ := h3 e he
  exact ⟨k, a, b.trans (hh k)⟩
 ·revert h4
  generalize es.toList = l
  intro h4
  clear h1 h2 h3 h5
  induction h4 with
  | nil => exact .nil
  | cons a b _ ih => exact .cons a b ih
theorem zQO {B : Heap} {G : Wd} {x : Str} {sv : SV} {v : Value} (d : Den B G sv v) : ∀ {fs : List (Str × SV)} {kvs : List (Str × Value)}, KvR B G fs kvs → (kvs.map (·.1)).Nodup → KvR B G (put x sv fs) (stored kvs x v)
 | _, _, .nil, _ => .cons d .nil
 | _, _, .cons (x := y) (v := u) (fs := fs) (kvs := kvs) d' r, nd => by
  rw [List.map_cons, List.nodup_cons] at nd
  unfold put
  cases q : Fast.sEq x y with
  | true =>
   have e := zAQ q
   subst e
   have hno : ∀ p ∈ kvs, p.1 ≠ x := fun p hp e => nd.1 (List.mem_map.mpr ⟨p, hp, e⟩)
   have e2 : stored ((x, u) :: kvs) x v = (x, v) :: kvs := by
    unfold stored
    rw [if_pos (by simp), List.map_cons, if_pos rfl]
    congr 1
    conv => rhs; rw [← List.map_id kvs]
    refine List.map_congr_left fun p hp => ?_
    rw [if_neg (hno p hp)]; rfl
   rw [e2]
   exact .cons d r
  | false =>
   have hne : ¬ y = x := fun e => zAo q e.symm
   have e2 : stored ((y, u) :: kvs) x v = (y, u) :: stored kvs x v := by
    unfold stored
    simp only [List.any_cons, decide_eq_false hne, Bool.false_or, List.map_cons, if_neg hne]
    split <;> rfl
   rw [e2]
   exact .cons d' (zQO d r nd.2)
theorem zSZ {Q : Value → Shared → Prop} {env : Env} {pos : Pos} (R : Rep w F ads st s.heap) (hQ : ∀ s', Rep w F (wa ads (.one s.heap.objs.size 0)) { st with led := st.led ++ [.dic []] } s'.heap → Nx F s s' → Q (.ref s.heap.objs.size) s') : wpAny (model prog w) A (eval (.Dict [] [] pos) env) Q E s := by
 refine wpAny_Dict_empty (hQ _ (zBK rfl R (.dic (kvs := []) ⟨prog, w, rfl, ?_⟩ .nil)) (Nx.of_gens rfl rfl rfl))
 exact ⟨#[], 0, ⟨rfl, rfl, rfl⟩, rfl, (fun _ he => by simp at he), Pairs.nil, List.nodup_nil⟩
theorem zSY {i : Nat} {fs : List (Str × SV)} {x : Str} {t : Tok} {sv : SV} {u v : Value} {Q : Unit → Shared → Prop} (R : Rep w F ads st s.heap) (d : Den F.B ads (.obj i) u) (hi : st.led[i]? = some (.dic fs)) (dv : Den F.B ads sv v) (hl : fs.length ≤ sizeLine)
  (hQ : ∀ h' t', Rep w F ads { st with led := st.led.set i (.dic (put x sv fs)) } h' → Q () { s with heap := h', toks := t' }) : wpAny (model prog w) A (setItem u (.str x t) v) Q E s := by
 obtain ⟨m, news, lw, pre, ps, post, a, dd, X, h1, h2, h3, h4⟩ := zDP R hi
 obtain ⟨p, hp, rfl⟩ := d
 rw [h2] at hp; cases hp
 obtain ⟨o, kvs, hd, hk, rfl⟩ := h3.inv
 ·have hd' := zIT (w := w) hd
  have ho := (X.nw (a, o) (by rw [h1]; simp)).1
  refine wpAny_setItem_pairs (knd := strKind prog w) (hkey := strKind_is prog w x t) (Heap.dictOf_iff.mpr ⟨o, ho, hd'⟩) (fun h' hm hs => ?_) (by rw [hk.length]; exact hl)
  obtain ⟨o', ho', hd''⟩ := Heap.dictOf_iff.mp hm
  exact hQ h' _ (zCj X h1 (h4 _ _ (One.dic ⟨prog, w, rfl, hd''⟩ (zQO dv hk (by obtain ⟨_, _, _, _, _, _, nd⟩ := hd'; exact nd)))) ho' fun b hb o q => (hs.2 b hb).trans q)
end
set_option maxHeartbeats 1000000
theorem zHZ {n : Nat} {loc more : List (Str × SV)} {led led' : List SO} (hl : okF n loc) (h : SosT n led (led.take n) led') : Trim n ⟨loc ++ more, led⟩ ⟨loc, led'⟩ :=
 ⟨fun x y hx => ⟨y, zFI hx, zGq (zFE hl _ (zCs hx))⟩, h⟩
theorem zCi {n : Nat} {led : List SO} : ∀ {a b c d : List SO}, SosT n led a b → SosT n led c d → SosT n led (a ++ c) (b ++ d) := by
 intro a b c d r h
 induction r with
 | nil => exact h
 | cons x _ ih => exact .cons x ih
theorem zAx (n : Nat) (led : List SO) : ∀ l : List PyData, SvsT n led (l.map svOf) (l.map svOf)
 | [] => .nil
 | d :: r => .cons (.same (by cases d <;> trivial)) (zAx n led r)
theorem zFS : ∀ l : List PyData, frzs (l.map svOf) = some l
 | [] => rfl
 | d :: r => by
  show (match frz1 (svOf d) with | some d => (match frzs (r.map svOf) with | some ds => some (d :: ds) | none => none) | none => none) = _
  rw [zNj, zFS r]
theorem zBR {bnd : SV → St → (St → Prop) → Prop} {test : Option (St → Kt → Prop)} {elt : St → Kt → Prop} {src : SV} {all : List SV} {slot : Nat → SO} {fl : List (Str × SV)} {pre : List SO} (loc : List (Str × SV)) (kk : SV → St → Prop) (g : Nat → Option PyData)
  (hpre : ∀ n led, pre.length ≤ n → SosT n led pre pre) (hfl : okF pre.length fl) (hloc : okF pre.length loc) (hslot : ∀ n led j, pre.length ≤ n → SoT n led (slot j) (slot j))
  (hsrc : ∀ a b, srcT ⟨fl, pre ++ [a, b]⟩ src = some (all, slot)) (hlen : all.length ≤ sizeLine)
  (step : ∀ i x zs (K : Kt) (D : St → Prop), all[i]? = some x → (∀ d, g i = some d → ∀ more extra, K (.v (svOf d)) ⟨fl ++ more, pre ++ (slot (i + 1) :: .list zs :: extra)⟩) → (g i = none → ∀ more extra, D ⟨fl ++ more, pre ++ (slot (i + 1) :: .list zs :: extra)⟩) →
   bnd x ⟨fl, pre ++ [slot (i + 1), .list zs]⟩ fun st₁ => zCo test st₁ fun c st₂ => ifT c (elt st₂ K) (D st₂))
  (hk : kk (.dat (.list ((List.range all.length).filterMap g))) ⟨loc, pre⟩) :
  zBZ bnd test elt src all slot pre.length (pre.length + 1) 0 all ⟨fl, pre ++ [slot 0, .list []]⟩ (fun stE => zAg loc pre.length (pre.length + 1) stE kk) := by
 have okm : ∀ {m n : Nat} {f : List (Str × SV)}, m ≤ n → okF m f → okF n f := by
  intro m n f hmn
  induction f with
  | nil => exact fun _ => trivial
  | cons p r ih =>
   obtain ⟨a, v⟩ := p
   refine fun h => ⟨?_, ih h.2⟩
   have h1 := h.1
   cases v <;> first | exact Nat.lt_of_lt_of_le h1 hmn | trivial
 have getp : ∀ (a : SO) (r : List SO), (pre ++ a :: r)[pre.length]? = some a := fun a r => by simp
 have getq : ∀ (a b : SO) (r : List SO), (pre ++ a :: b :: r)[pre.length + 1]? = some b := fun a b r => by
  rw [List.getElem?_append_right (by lia)]; simp
 have setp : ∀ (a b : SO) (r : List SO), (pre ++ a :: r).set pre.length b = pre ++ b :: r := fun a b r => by
  have e : ∀ (l : List SO), (l ++ a :: r).set l.length b = l ++ b :: r := fun l => by
   induction l with
   | nil => rfl
   | cons y l ih => show y :: (l ++ a :: r).set l.length b = _; rw [ih]; rfl
  exact e pre
 have setq : ∀ (a b c : SO) (r : List SO), (pre ++ a :: b :: r).set (pre.length + 1) c = pre ++ a :: c :: r := fun a b c r => by
  have e : ∀ (l : List SO), (l ++ a :: b :: r).set (l.length + 1) c = l ++ a :: c :: r := fun l => by
   induction l with
   | nil => rfl
   | cons y l ih => show y :: (l ++ a :: b :: r).set (l.length + 1) c = _; rw [ih]; rfl
  exact e pre
 have loop : ∀ (rest : List SV) (j : Nat) (done : List PyData), (∀ i, rest[i]? = all[j + i]?) → j + rest.length = all.length → done = (List.range j).filterMap g → done.length ≤ j →
   zBZ bnd test elt src all slot pre.length (pre.length + 1) j rest ⟨fl, pre ++ [slot j, .list (done.map svOf)]⟩ (fun stE => zAg loc pre.length (pre.length + 1) stE kk) := by
  intro rest
  induction rest with
  | nil =>
   intro j done h1 h2 h3 h4
   have hj : j = all.length := by simpa using h2
   refine ⟨getp _ _, hsrc _ _, ?_⟩
   show zAg loc pre.length (pre.length + 1) ⟨fl, (pre ++ [slot j, .list (done.map svOf)]).set pre.length .gone⟩ kk
   rw [setp]
   refine ⟨done.map svOf, done, ⟨loc, pre⟩, getq _ _ _, zFS _, by lia, ?_, ?_⟩
   ·have := zHZ (n := pre.length) (loc := loc) (more := []) (led := pre ++ [.gone, .list (done.map svOf)]) (led' := pre) hloc (by rw [List.take_left]; exact hpre _ _ (Nat.le_refl _))
    rw [List.append_nil] at this
    exact this
   ·rw [h3, hj]; exact hk
  | cons x r ih =>
   intro j done h1 h2 h3 h4
   rw [List.length_cons] at h2
   refine ⟨getp _ _, hsrc _ _, ?_⟩
   show bnd x ⟨fl, (pre ++ [slot j, .list (done.map svOf)]).set pre.length (slot (j + 1))⟩ _
   rw [setp]
   have hx : all[j]? = some x := by have := h1 0; simpa using this.symm
   have hlen2 : (pre ++ [slot j, SO.list (done.map svOf)]).length = pre.length + 2 := by simp
   refine step j x (done.map svOf) _ _ hx (fun d hd more extra => ?_) fun hd more extra => ?_
   ·show appT (pre.length + 1) (svOf d) ⟨fl ++ more, pre ++ (slot (j + 1) :: .list (done.map svOf) :: extra)⟩ _
    show zHu (pre ++ slot (j + 1) :: .list (done.map svOf) :: extra)[pre.length + 1]? _
    rw [getq]
    refine ⟨by rw [List.length_map]; lia, ⟨fl, pre ++ [slot (j + 1), .list ((done ++ [d]).map svOf)]⟩, ?_, ?_⟩
    ·show Trim (pre ++ [slot j, SO.list (done.map svOf)]).length ⟨fl ++ more, (pre ++ slot (j + 1) :: .list (done.map svOf) :: extra).set (pre.length + 1) (.list (done.map svOf ++ [svOf d]))⟩ _
     rw [setq, hlen2]
     have e1 : done.map svOf ++ [svOf d] = (done ++ [d]).map svOf := by simp
     rw [e1]
     refine zHZ (okm (by lia) hfl) ?_
     have e2 : List.take (pre.length + 2) (pre ++ slot (j + 1) :: SO.list ((done ++ [d]).map svOf) :: extra) = pre ++ [slot (j + 1), .list ((done ++ [d]).map svOf)] := by
      rw [List.take_append, List.take_of_length_le (by lia), show pre.length + 2 - pre.length = 2 by lia]; rfl
     rw [e2]
     exact zCi (hpre _ _ (by lia)) (.cons (hslot _ _ _ (by lia)) (.cons (.list (zAx _ _ _)) .nil))
    ·refine ih (j + 1) (done ++ [d]) (fun i => ?_) (by lia) ?_ (by simp; lia)
     ·have := h1 (i + 1)
      rw [List.getElem?_cons_succ] at this
      rw [this]; congr 1; lia
     ·rw [List.range_succ, List.filterMap_append, ← h3]
      simp [hd]
   ·refine ⟨⟨fl, pre ++ [slot (j + 1), .list (done.map svOf)]⟩, ?_, ?_⟩
    ·show Trim (pre ++ [slot j, SO.list (done.map svOf)]).length ⟨fl ++ more, pre ++ slot (j + 1) :: .list (done.map svOf) :: extra⟩ _
     rw [hlen2]
     refine zHZ (okm (by lia) hfl) ?_
     have e2 : List.take (pre.length + 2) (pre ++ slot (j + 1) :: SO.list (done.map svOf) :: extra) = pre ++ [slot (j + 1), .list (done.map svOf)] := by
      rw [List.take_append, List.take_of_length_le (by lia), show pre.length + 2 - pre.length = 2 by lia]; rfl
     rw [e2]
     exact zCi (hpre _ _ (by lia)) (.cons (hslot _ _ _ (by lia)) (.cons (.list (zAx _ _ _)) .nil))
    ·refine ih (j + 1) done (fun i => ?_) (by lia) ?_ (by lia)
     ·have := h1 (i + 1)
      rw [List.getElem?_cons_succ] at this
      rw [this]; congr 1; lia
     ·rw [List.range_succ, List.filterMap_append, ← h3]
      simp [hd]
 exact loop all 0 [] (fun i => by simp) (by simp) rfl (Nat.le_refl _)
set_option maxHeartbeats 200000
noncomputable def zEP (x : SV) : Option Str := match x with
 | .str s => some s
 | .sg c _ _ => some (sgS c)
 | _ => none
noncomputable def addT (x y : SV) (k : SV → Prop) : Prop := match x with
 | .int a => match y with
  | .int b => k (.int (a + b))
  | _ => False
 | _ => zBW (zEP x) fun a => zBW (zEP y) fun b => a.length + b.length ≤ sizeLine ∧ k (.str (a ++ b))
noncomputable def binT (op : Operator) (x y : SV) (k : SV → Prop) : Prop := match op with
 | .Add => addT x y k
 | .Sub => match x, y with
  | .int a, .int b => k (.int (a - b))
  | _, _ => False
 | .Mod => match x, y with
  | .int a, .int b => b ≠ 0 ∧ k (.int (a.fmod b))
  | _, _ => False
 | .FloorDiv => match x, y with
  | .int a, .int b => (b ≠ 0 ∧ b.natAbs < 1073741824) ∧ k (.int (a.fdiv b))
  | _, _ => False
 | _ => False
noncomputable def zMH (a : Str) : List SV → Option Bool
 | [] => some false
 | .str b :: r => (zMH a r).map fun c => (b == a) || c
 | _ => none
noncomputable def eqS (x y : SV) : Option Bool := match x with
 | .sg c es _ => match y with
  | .str b => match lk b es with
   | some r => some r
   | none => some (Fast.sEq (sgS c) b)
  | _ => none
 | .str a => match y with
  | .sg c es _ => match lk a es with
   | some r => some r
   | none => some (Fast.sEq a (sgS c))
  | .str b => some (Fast.sEq a b)
  | _ => none
 | _ => none
noncomputable def inS (x y : SV) : Option Bool := match y with
 | .str b => match x with
  | .sg c _ fs => match lk b fs with
   | some r => some r
   | none => some (inB (sgS c) b)
  | .str a => some (inB a b)
  | _ => none
 | _ => none
noncomputable def eqT (x y : SV) : Option Bool := match x with
 | .int a => match y with
  | .int b => some (a == b)
  | _ => none
 | .none => match y with
  | .none => some true
  | .str _ => some false
  | _ => none
 | .str a => match y with
  | .none => some false
  | _ => eqS (.str a) y
 | .sg c es fs => match y with
  | .none => some false
  | _ => eqS (.sg c es fs) y
 | _ => none
noncomputable def isNT (x y : SV) : Option Bool := match y with
 | .none => match x with
  | .none => some true
  | .str _ => some false
  | .sg .. => some false
  | .int _ => some false
  | .bool _ => some false
  | .obj _ => some false
  | _ => none
 | .val v => match v with
  | .type b => match x with
   | .val u => match u with
    | .type a => some (Value.type a == Value.type b)
    | _ => none
   | _ => none
  | _ => none
 | _ => none
noncomputable def onO (o : Option Bool) (k : Bool → Prop) : Prop := match o with
 | some c => k c
 | none => False
noncomputable def cmpT (st : St) (op : CmpOp) (x y : SV) (k : Bool → Prop) : Prop := match op with
 | .Eq => onO (eqT x y) k
 | .NotEq => match x with
  | .int a => match y with
   | .int b => k (a != b)
   | _ => False
  | _ => onO (eqS x y) fun b => k (!b)
 | .In => match y with
  | .obj i => match x with
   | .str a => zTD st.led[i]? fun xs => onO (zMH a xs) k
   | _ => False
  | _ => onO (inS x y) k
 | .NotIn => onO (inS x y) fun b => k (!b)
 | .Is => onO (isNT x y) k
 | .IsNot => onO (isNT x y) fun b => k (!b)
 | .GtE => match x with
  | .int a => match y with
   | .int b => k (decide (b ≤ a))
   | _ => False
  | _ => False
 | .Gt => match x with
  | .int a => match y with
   | .int b => k (decide (b < a))
   | _ => False
  | _ => False
 | .Lt => match x with
  | .int a => match y with
   | .int b => k (decide (a < b))
   | _ => False
  | _ => False
 | _ => False
noncomputable abbrev zBd (a b : Value) : Obj := { cls := .type "collections.deque", data := .fields #[a, b] }
noncomputable def zNO (o : Obj) : Bool := match o.cls with
 | .type c => match o.dict with
  | none => match o.data with
   | .fields vs => match vs.toList with
    | [] => false
    | _ :: r => match r with
     | [] => false
     | _ :: r => match r with
      | [] => match o.slots.toList with
       | [] => c == "collections.deque"
       | _ :: _ => false
      | _ :: _ => false
   | _ => false
  | some _ => false
 | _ => false
noncomputable def zDz (st : St) (x : SV) (k : Bool → Prop) : Prop := match x with
 | .none => k false
 | .bool b => k b
 | .int i => k (i != 0)
 | .str s => k ((s.length : Int) != 0)
 | .sg .. => k true
 | .obj i => zTF st.led[i]? fun o => onTr (zNO o) (k false)
 | _ => False
section ops
variable {w : World} {F : Fm} {E : Value → Shared → Prop} {s : Shared} {ads : Wd} {st : St}
theorem zDI {B : Heap} {x : SV} {v : Value} {a : Str} (d : Den B ads x v) (h : zEP x = some a) : (∃ t, v = .str a t) ∧ a.length ≤ sizeLine := by
 cases x <;> first | exact zAU h | (obtain rfl := Option.some.inj h)
 ·exact d
 ·exact ⟨d.1, by rw [zCG, sizeLine_eq]; lia⟩
theorem zGm {x y : SV} {k : SV → Prop} (h : addT x y k) : (∃ a b, x = .int a ∧ y = .int b ∧ k (.int (a + b))) ∨ (∃ a b, zEP x = some a ∧ zEP y = some b ∧ a.length + b.length ≤ sizeLine ∧ k (.str (a ++ b))) := by
 have fin : zBW (zEP x) (fun a => zBW (zEP y) fun b => a.length + b.length ≤ sizeLine ∧ k (.str (a ++ b))) → (∃ a b, zEP x = some a ∧ zEP y = some b ∧ a.length + b.length ≤ sizeLine ∧ k (.str (a ++ b))) := fun h => by
  obtain ⟨a, ha, h⟩ := zAM h
  obtain ⟨b, hb, h⟩ := zAM h
  exact ⟨a, b, ha, hb, h⟩
 cases x <;> first | exact .inr (fin h) | skip
 cases y <;> first | exact False.elim h | exact .inl ⟨_, _, rfl, rfl, h⟩
theorem zFm {B : Heap} {A : Around} {x y : SV} {a b : Value} {k : SV → Prop} {Q : Value → Shared → Prop} (dx : Den B ads x a) (dy : Den B ads y b) (h : addT x y k)
  (hQ : ∀ r v t, k r → Den B ads r v → Q v { s with toks := t }) : wpAny (model prog w) A (binaryOp .Add a b) Q E s := by
 rcases zGm h with ⟨a, b, rfl, rfl, h⟩ | ⟨a, b, ha, hb, h⟩
 ·obtain ⟨t, rfl⟩ := dx; obtain ⟨u, rfl⟩ := dy
  exact PyProof.Rows.add_int (hQ _ _ _ h ⟨_, rfl⟩)
 ·obtain ⟨⟨t, rfl⟩, lx⟩ := zDI dx ha; obtain ⟨⟨u, rfl⟩, ly⟩ := zDI dy hb
  exact SBL.add (fun t' kk hl => hQ _ _ _ h.2 ⟨⟨_, rfl⟩, Nat.le_trans hl.2 h.1⟩) h.1
theorem zGZ {B : Heap} {A : Around} {x y : SV} {a b : Value} {k : SV → Prop} {Q : Value → Shared → Prop} (dx : Den B ads x a) (dy : Den B ads y b) (h : addT x y k)
  (hQ : ∀ r v t, k r → Den B ads r v → Q v { s with toks := t }) : wpAny (model prog w) A (inplaceOp .Add a b) Q E s := by
 rcases zGm h with ⟨a, b, rfl, rfl, h⟩ | ⟨a, b, ha, hb, h⟩
 ·obtain ⟨t, rfl⟩ := dx; obtain ⟨u, rfl⟩ := dy
  exact iadd_int (hQ _ _ _ h ⟨_, rfl⟩)
 ·obtain ⟨⟨t, rfl⟩, lx⟩ := zDI dx ha; obtain ⟨⟨u, rfl⟩, ly⟩ := zDI dy hb
  exact SBL.iadd (fun t' kk hl => hQ _ _ _ h.2 ⟨⟨_, rfl⟩, Nat.le_trans hl.2 h.1⟩) h.1
theorem zOr (a b : Str) : Fast.sEq a b = Fast.sEq b a := by
 rw [← zBm, ← zBm]; exact Bool.beq_comm
theorem zCI {o : Option Bool} {k : Bool → Prop} (h : onO o k) : ∃ c, o = some c ∧ k c := by
 cases o with
 | none => exact h.elim
 | some c => exact ⟨c, rfl, h⟩
theorem zRr {es : List (Str × Bool)} {x : Str} {d c r : Bool} (h : (match lk x es with | some r => some r | none => some d) = some c) (e : ∀ p ∈ es, p.1 = x → r = p.2) (hd : r = d) : r = c := by
 cases q : lk x es with
 | some u => rw [q] at h; obtain rfl := Option.some.inj h; exact e _ (zCs q) rfl
 | none => rw [q] at h; obtain rfl := Option.some.inj h; exact hd
theorem zIN {B : Heap} {x y : SV} {a b : Value} {c : Bool} (dx : Den B ads x a) (dy : Den B ads y b) (h : eqS x y = some c) : ∃ u v t t', a = .str u t ∧ b = .str v t' ∧ (u == v) = c := by
 cases x <;> first | exact zAU h | skip
 ·cases y <;> first | exact zAU h | skip
  ·obtain ⟨⟨t, rfl⟩, _⟩ := dx
   obtain ⟨⟨t', rfl⟩, _⟩ := dy
   obtain rfl := Option.some.inj h
   exact ⟨_, _, t, t', rfl, rfl, zBm _ _⟩
  ·obtain ⟨⟨t, rfl⟩, _⟩ := dx
   obtain ⟨⟨t', rfl⟩, e1, _⟩ := dy
   refine ⟨_, _, t, t', rfl, rfl, ?_⟩
   rw [zBm]
   exact zRr h (fun p hp e => by rw [← e, zOr]; exact e1 p hp) rfl
 ·cases y <;> first | exact zAU h | skip
  obtain ⟨⟨t, rfl⟩, e1, _⟩ := dx
  obtain ⟨⟨t', rfl⟩, _⟩ := dy
  refine ⟨_, _, t, t', rfl, rfl, ?_⟩
  rw [zBm]
  exact zRr h (fun p hp e => by rw [← e]; exact e1 p hp) rfl
theorem zIF {B : Heap} {x y : SV} {a b : Value} {c : Bool} (dx : Den B ads x a) (dy : Den B ads y b) (h : inS x y = some c) : ∃ u v t t', a = .str u t ∧ b = .str v t' ∧ inB u v = c := by
 cases y <;> first | exact zAU h | skip
 obtain ⟨⟨t', rfl⟩, _⟩ := dy
 cases x <;> first | exact zAU h | skip
 ·obtain ⟨⟨t, rfl⟩, _⟩ := dx
  obtain rfl := Option.some.inj h
  exact ⟨_, _, t, t', rfl, rfl, rfl⟩
 ·obtain ⟨⟨t, rfl⟩, _, e1⟩ := dx
  exact ⟨_, _, t, t', rfl, rfl, zRr h (fun p hp e => by rw [← e]; exact e1 p hp) rfl⟩
theorem zGX {B : Heap} {x y : SV} {a b : Value} {c : Bool} (dx : Den B ads x a) (dy : Den B ads y b) (h : isNT x y = some c) : PySem.plainIs a b = true ∧ (a == b) = c := by
 cases y <;> first | exact zAU h | skip
 ·obtain rfl := dy
  cases x <;> first | exact zAU h | (obtain rfl := Option.some.inj h)
  ·obtain rfl := dx; exact ⟨rfl, rfl⟩
  ·obtain rfl := dx; exact ⟨rfl, rfl⟩
  ·obtain ⟨t, rfl⟩ := dx; exact ⟨rfl, rfl⟩
  ·obtain ⟨⟨t, rfl⟩, _⟩ := dx; exact ⟨rfl, rfl⟩
  ·obtain ⟨p, _, rfl⟩ := dx; exact ⟨rfl, rfl⟩
  ·obtain ⟨⟨t, rfl⟩, _⟩ := dx; exact ⟨rfl, rfl⟩
 ·obtain ⟨rfl, _⟩ := dy
  cases b <;> first | exact zAU h | skip
  cases x <;> first | exact zAU h | skip
  obtain ⟨rfl, _⟩ := dx
  cases a <;> first | exact zAU h | skip
  exact ⟨rfl, Option.some.inj h⟩
theorem zNn {B : Heap} {x y : SV} {a b : Value} {c : Bool} {A : Around} {Q : Value → Shared → Prop} (dx : Den B ads x a) (dy : Den B ads y b) (h : eqT x y = some c) (hq : Q (.bool c) s) : wpAny (model prog w) A (compareOp .Eq a b) Q E s := by
 have fin : eqS x y = some c → wpAny (model prog w) A (compareOp .Eq a b) Q E s := fun h => by
  obtain ⟨u, v, t, t', rfl, rfl, e⟩ := zIN dx dy h
  exact eq_str (by rw [e]; exact hq)
 cases x <;> first | exact zAU h | skip
 ·obtain rfl := dx
  cases y <;> first | exact zAU h | (obtain rfl := Option.some.inj h)
  ·obtain rfl := dy; exact EqNone.eq_none_none hq
  ·obtain ⟨⟨u, rfl⟩, _⟩ := dy; exact EqNone.eq_none_str hq
 ·obtain ⟨t, rfl⟩ := dx
  cases y <;> first | exact zAU h | (obtain rfl := Option.some.inj h)
  obtain ⟨u, rfl⟩ := dy; exact PyProof.Rows.eq_int hq
 ·cases y <;> first | exact zAU h | exact fin h | (obtain rfl := Option.some.inj h)
  obtain ⟨⟨t, rfl⟩, _⟩ := dx; obtain rfl := dy; exact EqNone.eq_str_none hq
 ·cases y <;> first | exact zAU h | exact fin h | (obtain rfl := Option.some.inj h)
  obtain ⟨⟨t, rfl⟩, _⟩ := dx; obtain rfl := dy; exact EqNone.eq_str_none hq
theorem zOC {B : Heap} {A : Around} {op : Operator} {x y : SV} {a b : Value} {k : SV → Prop} {Q : Value → Shared → Prop} (dx : Den B ads x a) (dy : Den B ads y b) (h : binT op x y k)
  (hQ : ∀ r v t, k r → Den B ads r v → Q v { s with toks := t }) : wpAny (model prog w) A (binaryOp op a b) Q E s := by
 cases op <;> try exact h.elim
 ·exact zFm dx dy h hQ
 ·cases x <;> first | exact False.elim h | skip
  cases y <;> first | exact False.elim h | skip
  obtain ⟨t, rfl⟩ := dx; obtain ⟨u, rfl⟩ := dy
  exact sub_int (hQ _ _ _ h ⟨_, rfl⟩)
 ·cases x <;> first | exact False.elim h | skip
  cases y <;> first | exact False.elim h | skip
  obtain ⟨t, rfl⟩ := dx; obtain ⟨u, rfl⟩ := dy
  exact mod_int' h.1 (hQ _ _ _ h.2 ⟨_, rfl⟩)
 ·cases x <;> first | exact False.elim h | skip
  cases y <;> first | exact False.elim h | skip
  obtain ⟨t, rfl⟩ := dx; obtain ⟨u, rfl⟩ := dy
  exact floordiv_int h.1.1 (hQ _ _ _ h.2 ⟨_, rfl⟩) (.inl (PyProof.noPylong_small h.1.2))
theorem zHg {B : Heap} {a : Str} : ∀ {xs : List SV} {vs : List Value} {b : Bool}, DenL B ads xs vs → zMH a xs = some b → ∃ ys, StrsAre vs ys ∧ ys.any (· == a) = b := by
 intro xs vs b D
 induction D generalizing b with
 | nil => exact fun h => ⟨[], .nil, Option.some.inj h⟩
 | @cons x _ xs _ d r ih =>
  intro h
  cases x with
  | str y =>
   obtain ⟨c, h1, h2⟩ := Option.map_eq_some_iff.mp h
   obtain ⟨ys, e1, e2⟩ := ih h1
   obtain ⟨⟨t, rfl⟩, _⟩ := d
   exact ⟨y :: ys, .cons y t e1, by rw [List.any_cons, e2]; exact h2⟩
  | _ => cases h
theorem zIY {op : CmpOp} {x y : SV} {a b : Value} {k : Bool → Prop} {Q : Value → Shared → Prop} (R : Rep w F ads st s.heap) (dx : Den F.B ads x a) (dy : Den F.B ads y b) (h : cmpT st op x y k)
  (hQ : ∀ c t, k c → Q (.bool c) { s with toks := t }) : wpAny (model prog w) F.A (compareOp op a b) Q E s := by
 have hq : ∀ c, k c → Q (.bool c) s := fun c hc => hQ c s.toks hc
 cases op with
 | Eq =>
  obtain ⟨c, e, h⟩ := zCI h
  exact zNn dx dy e (hq _ h)
 | NotEq =>
  have fin : onO (eqS x y) (fun b => k (!b)) → wpAny (model prog w) F.A (compareOp .NotEq a b) Q E s := fun h => by
   obtain ⟨c, hc, h⟩ := zCI h
   obtain ⟨u, v, t, t', rfl, rfl, e⟩ := zIN dx dy hc
   exact ne_str (by rw [bne, e]; exact hq _ h)
  cases x <;> first | exact fin h | skip
  cases y <;> first | exact h.elim | skip
  obtain ⟨t, rfl⟩ := dx; obtain ⟨u, rfl⟩ := dy; exact ne_int (hq _ h)
 | Lt =>
  cases x <;> first | exact False.elim h | skip
  cases y <;> first | exact False.elim h | skip
  obtain ⟨t, rfl⟩ := dx; obtain ⟨u, rfl⟩ := dy; exact PyProof.Rows.lt_int (hq _ h)
 | Gt =>
  cases x <;> first | exact False.elim h | skip
  cases y <;> first | exact False.elim h | skip
  obtain ⟨t, rfl⟩ := dx; obtain ⟨u, rfl⟩ := dy; exact gt_int (hq _ h)
 | GtE =>
  cases x <;> first | exact False.elim h | skip
  cases y <;> first | exact False.elim h | skip
  obtain ⟨t, rfl⟩ := dx; obtain ⟨u, rfl⟩ := dy; exact ge_int (hq _ h)
 | Is =>
  obtain ⟨c, hc, h⟩ := zCI h
  obtain ⟨e1, e2⟩ := zGX dx dy hc
  exact wpAny_is_plain e1 (by rw [e2]; exact hq _ h)
 | IsNot =>
  obtain ⟨c, hc, h⟩ := zCI h
  obtain ⟨e1, e2⟩ := zGX dx dy hc
  exact wpAny_isNot_plain e1 (by rw [e2]; exact hq _ h)
 | In =>
  have fin : onO (inS x y) k → wpAny (model prog w) F.A (compareOp .In a b) Q E s := fun h => by
   obtain ⟨c, hc, h⟩ := zCI h
   obtain ⟨u, v, t, t', rfl, rfl, e⟩ := zIF dx dy hc
   exact in_str (by unfold inB at e; rw [e]; exact hq _ h)
  cases y <;> first | exact fin h | skip
  cases x <;> first | exact False.elim h | skip
  obtain ⟨xs, hi, h⟩ := zLD h
  obtain ⟨c, hc, h⟩ := zCI h
  obtain ⟨m, news, lw, X⟩ := R
  obtain ⟨pre, ps, post, p, d, h1, h2, h3, _⟩ := X.led.at hi
  obtain ⟨vs, n, D, rfl⟩ := h3.inv
  obtain ⟨⟨t, rfl⟩, _⟩ := dx
  obtain ⟨q, hq1, rfl⟩ := dy
  rw [h2] at hq1
  obtain rfl := Option.some.inj hq1
  obtain ⟨ys, e1, e2⟩ := zHg D hc
  have ho := (X.nw (p, tupO vs n) (by rw [h1]; simp)).1
  exact in_tuple_strs (ys := ys) (items := vs.toArray) ⟨_, ho, rfl, n, rfl⟩ (by simpa using e1) (by rw [e2]; exact hq _ h)
 | NotIn =>
  obtain ⟨c, hc, h⟩ := zCI h
  obtain ⟨u, v, t, t', rfl, rfl, e⟩ := zIF dx dy hc
  exact notIn_str (by unfold inB at e; rw [e]; exact hq _ h)
 | LtE => exact False.elim h
theorem zLO {o : Obj} (h : zNO o = true) : ∃ a b, o = zBd a b := by
 obtain ⟨c, d, e, ⟨sl⟩⟩ := o
 cases c <;> first | exact Bool.noConfusion h | skip
 cases d <;> first | exact Bool.noConfusion h | skip
 cases e <;> first | exact Bool.noConfusion h | skip
 rename_i vs
 obtain ⟨vs⟩ := vs
 cases vs with
 | nil => exact Bool.noConfusion h
 | cons a r =>
 cases r with
 | nil => exact Bool.noConfusion h
 | cons b r =>
 cases r <;> first | exact Bool.noConfusion h | skip
 cases sl <;> first | exact Bool.noConfusion h | skip
 exact ⟨a, b, by rw [eq_of_beq h]⟩
theorem zEC : typeLookup (.type "collections.deque") "__bool__" = pure none := by rw [typeLookup_type, builtinLookup_eq_fast]; kernel_rfl
theorem slot_deque_len : Slot "collections.deque" "__len__" "collections.deque.__len__" :=
 .of (owner := "collections.deque") (n := "__len__") (by rw [typeLookup_type, builtinLookup_eq_fast]; kernel_rfl) (by decide +kernel) (by decide +kernel) (by decide +kernel)
  (by first | exact .inl (by decide +kernel) | exact .inr (by decide +kernel)) (by rw [isSubtype_type]; kernel_rfl)
theorem zFa : entryFor table "collections.deque.__len__" = some Builtin.«collections.deque.__len__» := entryFor_of_tree (by kernel_rfl)
theorem zFv (a : Value) : argsOk "collections.deque.__len__" ⟨[a], []⟩ := by unfold argsOk; kernel_rfl
theorem zFr {A : Around} {l : Addr} {x y : Value} {Q : Value → Shared → Prop} (ho : s.heap.get? l = some (zBd x y))
  (h : Q (.int 0 (s.toks + 1)) { s with toks := s.toks + 1 + 1 }) : wpAny (model prog w) A (Builtin.«len» ⟨[.ref l], []⟩) (fun fin s' => ∃ r, fin = .done (.ret r) ∧ Q r s') E s := by
 have hT : s.TypeIs (.ref l) "collections.deque" := ⟨_, ho, rfl⟩
 unfold Builtin.«len»
 refine wpAny_bind (m := oneArg "len" _) (wpAny_pure ?_)
 refine wpAny_bind (m := callSpecial? (.ref l) (Str.ofString "__len__")) (wpAny_callSpecial?_slot (name := Str.ofString "__len__") hT slot_deque_len
  (wpAny_call_entry slot_deque_len hT zFa ?_ (zFv _)))
 ·show wpAny _ _ (do retInt (← Builtin.Deque.size (.ref l))) _ _ s
  unfold Builtin.Deque.size
  refine wpAny_bind (wpAny_bind (wpAny_fieldsOf ho rfl (wpAny_pure ?_)))
  refine wpAny_bind (wpAny_mkInt (wpAny_pure ⟨_, rfl, ?_⟩))
  refine wpAny_bind (wpAny_holding (wpAny_pure ?_))
  refine wpAny_bind (wpAny_letGo ?_)
  show wpAny _ _ (if ((0 : Nat) : Int) < 0 then _ else _) _ _ _
  rw [if_neg (by lia)]
  show wpAny _ _ (if ((0 : Nat) : Int) ≥ 2 ^ 63 then _ else _) _ _ _
  rw [if_neg (by lia)]
  exact wpAny_bind (wpAny_mkInt (wpAny_pure ⟨_, rfl, h⟩))
theorem zIh {A : Around} {a : Addr} {x y : Value} {Q : Bool → Shared → Prop} (ho : s.heap.get? a = some (zBd x y)) (hQ : Q false { s with toks := s.toks + 1 + 1 }) : wpAny (model prog w) A (truthy (.ref a)) Q E s := by
 have hT : s.TypeIs (.ref a) "collections.deque" := ⟨_, ho, rfl⟩
 have key : wpAny (model prog w) A (runValue (.builtin "len" ⟨[.ref a], []⟩)) (fun r s' => r = .int 0 (s.toks + 1) ∧ Q false s') E s := by
  refine wpAny_runValue (codeAny_builtin entry_len ?_)
  rw [Around.under_plainId plain_len _]
  exact wpAny_mono (zFr (Q := fun r s' => r = .int 0 (s.toks + 1) ∧ Q false s') ho ⟨rfl, hQ⟩)
   (fun fin s' h' => by obtain ⟨r, rfl, hq⟩ := h'; exact hq) fun _ _ e => e
 unfold truthy
 first
  | refine wpAny_bind (wpAny_callSpecial?_none (name := Str.ofString "__bool__") hT zEC ?_)
  | refine wpAny_bind (wpAny_pure (wpAny_bind (wpAny_callSpecial?_none (name := Str.ofString "__bool__") hT zEC ?_)))
 first
  | refine wpAny_bind (wpAny_specialOf (name := Str.ofString "__len__") hT slot_deque_len.lookup ?_)
  | refine wpAny_bind (wpAny_pure (wpAny_bind (wpAny_specialOf (name := Str.ofString "__len__") hT slot_deque_len.lookup ?_)))
 first
  | exact wpAny_bind (wpAny_mono key (fun r s' h' => by obtain ⟨rfl, hq⟩ := h'; exact wpAny_pure hq) fun _ _ e => e)
  | exact wpAny_bind (wpAny_pure (wpAny_bind (wpAny_mono key (fun r s' h' => by obtain ⟨rfl, hq⟩ := h'; exact wpAny_pure hq) fun _ _ e => e)))
theorem zCv {x : SV} {a : Value} {k : Bool → Prop} {Q : Bool → Shared → Prop} (R : Rep w F ads st s.heap) (dx : Den F.B ads x a) (h : zDz st x k) (hQ : ∀ c t, k c → Q c { s with toks := t }) : wpAny (model prog w) F.A (truthy a) Q E s := by
 cases x <;> try exact h.elim
 ·cases dx; exact truthy_none (hQ _ s.toks h)
 ·cases dx; exact wpAny_truthy_bool (hQ _ s.toks h)
 ·obtain ⟨t, rfl⟩ := dx; exact truthy_int (hQ _ s.toks h)
 ·obtain ⟨⟨t, rfl⟩, l⟩ := dx
  exact SBL.truthy (by rw [sizeLine_eq] at l; lia) (hQ _ _ h)
 ·rename_i i
  obtain ⟨o, hi, h⟩ := zLF h
  obtain ⟨hd, h⟩ := zAz h
  obtain ⟨x, y, rfl⟩ := zLO hd
  obtain ⟨m, news, lw, X⟩ := R
  obtain ⟨pre, ps, post, p, d, h1, h2, h3, _⟩ := X.led.at hi
  obtain rfl := h3.inv
  obtain ⟨q, hq1, rfl⟩ := dx
  rw [h2] at hq1
  cases hq1
  exact zIh (X.nw (p, zBd x y) (by rw [h1]; simp)).1 (hQ _ _ h)
 ·obtain ⟨⟨t, rfl⟩, _⟩ := dx
  exact SBL.truthy (by rw [zCG]; lia) (hQ _ _ h)
end ops
noncomputable abbrev onFa (b : Bool) (p : Prop) : Prop := match b with
 | true => False
 | false => p
theorem zDR {b : Bool} {p : Prop} (h : onFa b p) : b = false ∧ p := by
 cases b with
 | true => exact h.elim
 | false => exact ⟨rfl, h⟩
noncomputable abbrev onNo {α : Type} (o : Option α) (p : Prop) : Prop := match o with
 | some _ => False
 | none => p
theorem zMg {α : Type} {o : Option α} {p : Prop} (h : onNo o p) : o = none ∧ p := by
 cases o with
 | some _ => exact h.elim
 | none => exact ⟨rfl, h⟩
noncomputable abbrev bO {α β : Type} (o : Option α) (f : α → Option β) : Option β := match o with
 | some x => f x
 | none => none
theorem zJS {α β : Type} {o : Option α} {f : α → Option β} {c : β} (h : bO o f = some c) : ∃ x, o = some x ∧ f x = some c := by
 cases o with
 | none => exact zAU h
 | some x => exact ⟨x, rfl, h⟩
noncomputable abbrev lgc (o : Option NameKind) (p q r : Prop) : Prop := match o with
 | none => False
 | some k => match k with
  | .local => p
  | .globalImplicit => q
  | .cell => r
  | _ => False
theorem zPK {o : Option NameKind} {p q r : Prop} (h : lgc o p q r) : (o = some .local ∧ p) ∨ (o = some .globalImplicit ∧ q) ∨ (o = some .cell ∧ r) := by
 cases o with
 | none => exact h.elim
 | some x => cases x <;> first | exact .inl ⟨rfl, h⟩ | exact .inr (.inl ⟨rfl, h⟩) | exact .inr (.inr ⟨rfl, h⟩) | exact h.elim
noncomputable abbrev onE1 {α : Type} (l : List α) (f : α → Prop) : Prop := match l with
 | [] => False
 | x :: r => match r with
  | [] => f x
  | _ :: _ => False
theorem zBi {α : Type} {l : List α} {f : α → Prop} (h : onE1 l f) : ∃ x, l = [x] ∧ f x := by
 cases l with
 | nil => exact h.elim
 | cons x r => cases r with
  | nil => exact ⟨x, rfl, h⟩
  | cons => exact h.elim
noncomputable abbrev zTU (l : List Expr) (p : Prop) (f : Expr → Prop) : Prop := match l with
 | [] => p
 | c :: r => match r with
  | [] => f c
  | _ :: _ => False
theorem zLP {l : List Expr} {p : Prop} {f : Expr → Prop} (h : zTU l p f) : (l = [] ∧ p) ∨ ∃ c, l = [c] ∧ f c := by
 cases l with
 | nil => exact .inl ⟨rfl, h⟩
 | cons x r => cases r with
  | nil => exact .inr ⟨x, rfl, h⟩
  | cons => exact h.elim
noncomputable abbrev zRm (o : Option (List SV × (Nat → SO))) (f : List SV → (Nat → SO) → Prop) : Prop := match o with
 | none => False
 | some p => match p with
  | (a, b) => f a b
theorem zGN {o : Option (List SV × (Nat → SO))} {f : List SV → (Nat → SO) → Prop} (h : zRm o f) : ∃ a b, o = some (a, b) ∧ f a b := by
 cases o with
 | none => exact h.elim
 | some p => exact ⟨p.1, p.2, rfl, h⟩
noncomputable abbrev onDL (o : Option SO) (f : List (Str × SV) → Prop) (g : List SV → Prop) : Prop := match o with
 | none => False
 | some x => match x with
  | .dic fs => f fs
  | .list xs => g xs
  | _ => False
theorem zMi {o : Option SO} {f : List (Str × SV) → Prop} {g : List SV → Prop} (h : onDL o f g) : (∃ x, o = some (.dic x) ∧ f x) ∨ ∃ x, o = some (.list x) ∧ g x := by
 cases o with
 | none => exact h.elim
 | some x => cases x <;> first | exact .inl ⟨_, rfl, h⟩ | exact .inr ⟨_, rfl, h⟩ | exact h.elim
noncomputable abbrev zQP (e : Expr) : Bool := match e with
 | .Starred .. => true
 | _ => false
noncomputable abbrev zOy (v : Value) : Option Addr := match v with
 | .ref a => some a
 | _ => none
theorem zKw {v : Value} {a : Addr} (h : zOy v = some a) : v = .ref a := by
 cases v <;> first | exact zAU h | exact congrArg Value.ref (Option.some.inj h)
theorem zKx {v : Value} (h : zOy v = none) (a : Addr) (e : v = .ref a) : False := by
 rw [e] at h; cases h
noncomputable abbrev isZ (i : Int) : Bool := match i with
 | .ofNat n => Nat.beq n 0
 | .negSucc _ => false
theorem zTR {i : Int} (h : isZ i = true) : i = 0 := by
 cases i with
 | ofNat n => rw [Nat.eq_of_beq_eq_true h]; rfl
 | negSucc n => cases h
noncomputable def zRo (s : Str) : Bool := Nat.ble s.length 4096
theorem zJu {s : Str} (h : zRo s = true) : s.length ≤ sizeLine := by
 have := Nat.le_of_ble_eq_true h
 rw [sizeLine_eq]; lia
noncomputable def unSg (x : SV) : SV := match x with
 | .sg c _ _ => .str (sgS c)
 | x => x
theorem zJa {B : Heap} {W : Wd} {x : SV} {v : Value} (d : Den B W x v) : Den B W (unSg x) v := by
 cases x with
 | sg c es fs => exact ⟨d.1, by rw [zCG, sizeLine_eq]; lia⟩
 | _ => exact d
noncomputable def zSg (C : Cf) (st : St) (x : SV) (a : Str) (k : SV → Prop) : Prop := onOb x fun i => zJs st.led[i]? fun c fs => zBW (findCls c C.cls) fun ce => onTr (zBl a ce.attrs) (zBW (lk a fs) k)
noncomputable def zGu (C : Cf) (st : St) (x : SV) (a : Str) (v : SV) (k : St → Prop) : Prop := onOb x fun i => zJs st.led[i]? fun c fs => zBW (findCls c C.cls) fun ce => onTr (zBl a ce.attrs) (onTr (Nat.ble (fs.length + 1) 900) (k { st with led := st.led.set i (.inst c (put a v fs)) }))
noncomputable def zRq (C : Cf) (st : St) (x : SV) (a : Str) (k : Addr → Prop) : Prop := onOb x fun i => zJs st.led[i]? fun c fs => zBW (findCls c C.cls) fun ce => zBW (lk a ce.meths) fun f => onNo (lk a fs) (k f)
noncomputable def zTC (C : Cf) (st : St) (x : SV) (a : Str) : Option Addr := match x with
 | .obj i => bO st.led[i]? fun so => match so with
  | .inst c _ => bO (findCls c C.cls) fun ce => bO (lk a ce.props) fun p => some p.2
  | _ => none
 | _ => none
noncomputable def zCE : List (Str × Value) → List (Str × SV)
 | [] => []
 | (x, v) :: r => (x, toSV v) :: zCE r
noncomputable def zipS : List Str → List SV → List (Str × SV)
 | x :: xs, v :: vs => (x, v) :: zipS xs vs
 | _, _ => []
noncomputable def zipV : List Str → List Value → List (Str × Value)
 | x :: xs, v :: vs => (x, v) :: zipV xs vs
 | _, _ => []
noncomputable def zOD (st : St) (k : Kt) : Kt := fun r st' => match r with
 | .ret v => k (.v v) { loc := st.loc, led := st'.led }
 | .next => k (.v .none) { loc := st.loc, led := st'.led }
 | _ => False
noncomputable def zAy (v : Expr) : Bool := match v with
 | .ListComp .. => false
 | .SetComp .. => false
 | .DictComp .. => false
 | _ => true
noncomputable def zFD (o : Expr) : Bool := match o with
 | .Name .. => true
 | .Attribute .. => true
 | .Constant .. => true
 | .Subscript .. => true
 | _ => false
noncomputable def zBw : List Expr → Bool
 | [] => true
 | e :: r => match zQP e with
  | true => false
  | false => zBw r
noncomputable def mcOk (o : Expr) (args : List Expr) (apos pos : Pos) : Bool := zFD o && zBw args && Nat.ble args.length 20 && apos.endLine == pos.line
noncomputable def zKD (st : St) (x : SV) : Bool := match x with
 | .obj i => match st.led[i]? with
  | some so => match so with
   | .inst .. => true
   | _ => false
  | none => false
 | _ => false
noncomputable def zJr (i : Expr) : Bool := match i with
 | .Constant .. => true
 | .Name .. => true
 | .BinOp .. => true
 | .UnaryOp .. => true
 | _ => false
noncomputable def zJN (x : SV) : Bool := match x with
 | .dat _ => true
 | .obj _ => true
 | _ => false
noncomputable def zGr (x : SV) : Option Str := match x with
 | .str s => some s
 | _ => none
noncomputable def subT (st : St) (o i : SV) (k : SV → Prop) : Prop := match i with
 | .int i => match zGr o with
  | some x => -(x.length : Int) ≤ i ∧ i < (x.length : Int) ∧ k (.str (Txt.item x i))
  | none => zBW (zHm st o) fun p => ∃ y, idxP p.2 i y ∧ k y
 | _ => False
noncomputable def slT (st : St) (o : SV) (l u : Option Int) (k : SV → St → Prop) : Prop := match o with
 | .str x => k (.str (Txt.slice x l u)) st
 | .dat d => match d with
  | .list ds => k (.dat (.list (slD ds l u))) st
  | _ => False
 | _ => False
noncomputable def cmpA (n : Nat) (st : St) (op : CmpOp) (x y : SV) (k : Bool → Prop) : Prop := match zJN x with
 | true => match op with
  | .Eq => eqD n st x y k
  | .NotEq => eqD n st x y fun c => k (!c)
  | _ => cmpT st op x y k
 | false => cmpT st op x y k
noncomputable def on0 (vs : List SV) (p : Prop) : Prop := match vs with
 | [] => p
 | _ :: _ => False
noncomputable def on1 (vs : List SV) (f : SV → Prop) : Prop := match vs with
 | [] => False
 | x :: r => match r with
  | [] => f x
  | _ :: _ => False
noncomputable def on2 (vs : List SV) (f : SV → SV → Prop) : Prop := match vs with
 | [] => False
 | x :: r => match r with
  | [] => False
  | y :: q => match q with
   | [] => f x y
   | _ :: _ => False
noncomputable def zSJ (x : SV) : Option Int := match x with
 | .int s => some s
 | _ => none
noncomputable def onS (x : SV) (f : Str → Prop) : Prop := match zGr x with
 | some s => f s
 | none => False
noncomputable def onI (x : SV) (f : Int → Prop) : Prop := match zSJ x with
 | some s => f s
 | none => False
theorem zHC {vs : List SV} {p : Prop} (h : on0 vs p) : vs = [] ∧ p := by
 cases vs with
 | nil => exact ⟨rfl, h⟩
 | cons => exact h.elim
theorem zAb {vs : List SV} {f : SV → Prop} (h : on1 vs f) : ∃ x, vs = [x] ∧ f x := by
 cases vs with
 | nil => exact h.elim
 | cons x r => cases r with
  | nil => exact ⟨x, rfl, h⟩
  | cons => exact h.elim
theorem zJt {vs : List SV} {f : SV → SV → Prop} (h : on2 vs f) : ∃ x y, vs = [x, y] ∧ f x y := by
 cases vs with
 | nil => exact h.elim
 | cons x r => cases r with
  | nil => exact h.elim
  | cons y q => cases q with
   | nil => exact ⟨x, y, rfl, h⟩
   | cons => exact h.elim
theorem zGH {x : SV} {s : Str} (h : zGr x = some s) : x = .str s := by
 cases x <;> first | exact zAU h | exact congrArg SV.str (Option.some.inj h)
theorem zAh {x : SV} {f : Str → Prop} (h : onS x f) : ∃ s, x = .str s ∧ f s := by
 cases x <;> first | exact ⟨_, rfl, h⟩ | exact h.elim
theorem zCJ {x : SV} {f : Int → Prop} (h : onI x f) : ∃ s, x = .int s ∧ f s := by
 cases x <;> first | exact ⟨_, rfl, h⟩ | exact h.elim
noncomputable def onD (x : SV) (f : PyData → Prop) : Prop := match x with
 | .dat d => f d
 | _ => False
theorem zHB {x : SV} {f : PyData → Prop} (h : onD x f) : ∃ s, x = .dat s ∧ f s := by
 cases x <;> first | exact ⟨_, rfl, h⟩ | exact h.elim
noncomputable def onLs (x : PyData) (f : List PyData → Prop) : Prop := match x with
 | .list d => f d
 | _ => False
theorem zHv {x : PyData} {f : List PyData → Prop} (h : onLs x f) : ∃ s, x = .list s ∧ f s := by
 cases x <;> first | exact ⟨_, rfl, h⟩ | exact h.elim
noncomputable def onBo (x : SV) (p : Prop) : Prop := match x with
 | .bool b => onTr b p
 | _ => False
theorem zMj {x : SV} {p : Prop} (h : onBo x p) : x = .bool true ∧ p := by
 cases x <;> first | exact ⟨congrArg SV.bool (zAz h).1, (zAz h).2⟩ | exact h.elim
noncomputable def onNl {α : Type} (l : List α) (p : Prop) : Prop := match l with
 | [] => p
 | _ :: _ => False
theorem zMh {α : Type} {l : List α} {p : Prop} (h : onNl l p) : l = [] ∧ p := by
 cases l with
 | nil => exact ⟨rfl, h⟩
 | cons => exact h.elim
noncomputable def isiT (x y : SV) (st : St) (k : SV → St → Prop) : Prop := match y with
 | .val v => match v with
  | .type t => match x with
   | .str _ => t = "str" ∧ k (.bool true) st
   | .dat d => match d with
    | .list _ => t = "str" ∧ k (.bool false) st
    | _ => False
   | _ => False
  | _ => False
 | _ => False
noncomputable def typT (x : SV) (st : St) (k : SV → St → Prop) : Prop := match x with
 | .int _ => k (.val (.type "int")) st
 | .str _ => k (.val (.type "str")) st
 | _ => False
noncomputable abbrev zCp (a b : String) (p q : Prop) : Prop := match decide (a = b) with
 | true => p
 | false => q
theorem zAa {a b : String} {p q : Prop} (h : zCp a b p q) : (a = b ∧ p) ∨ q := by
 unfold zCp at h
 split at h
 ·rename_i e; exact .inl ⟨of_decide_eq_true e, h⟩
 ·exact .inr h
noncomputable def bfT (f : Value) (vs : List SV) (st : St) (k : SV → St → Prop) : Prop := match f with
 | .builtin id => zCp id "len" (on1 vs fun x => match zGr x with
   | some s => k (.int s.length) st
   | none => zBW (zHm st x) fun p => p.2.length ≤ sizeLine ∧ k (.int p.2.length) st)
  <| zCp id "isinstance" (on2 vs fun x y => isiT x y st k) False
 | .type t => zCp t "type" (on1 vs fun x => typT x st k)
  <| zCp t "int" (on1 vs fun x => onI x fun i => k (.int i) st)
  <| zCp t "str" (on1 vs fun x => onI x fun i => i.natAbs < 4611686018427387904 ∧ (Str.ofString (toString i)).length ≤ sizeLine ∧ k (.str (Str.ofString (toString i))) st)
  <| zCp t "range" (on1 vs fun x => onI x fun i => 0 ≤ i ∧ i.toNat ≤ sizeLine ∧ k (.obj st.led.length) { st with led := st.led ++ [.rng i.toNat] })
  <| zCp t "collections.deque" (on0 vs (k (.obj st.led.length) { st with led := st.led ++ [.raw (zBd .none (rawInt 0))] })) False
 | _ => False
noncomputable def bmT (st : St) (x : SV) (m : Str) (k : String → Prop) : Prop := match x with
 | .str _ => match Fast.sEq m "join" with
  | true => k "str.join"
  | false => match Fast.sEq m "strip" with
   | true => k "str.strip"
   | false => match Fast.sEq m "split" with
    | true => k "str.split"
    | false => match Fast.sEq m "startswith" with
     | true => k "str.startswith"
     | false => match Fast.sEq m "endswith" with
      | true => k "str.endswith"
      | false => False
 | .obj i => zHu st.led[i]? fun _ => match Fast.sEq m "append" with
  | true => k "list.append"
  | false => match Fast.sEq m "pop" with
   | true => k "list.pop"
   | false => False
 | _ => False
noncomputable def bcT (mid : String) (st : St) (x : SV) (vs : List SV) (k : SV → St → Prop) : Prop :=
 zCp mid "str.join" (onS x fun sep => on1 vs fun v => zAt st v fun ds => ∃ ts : List Str, ds = ts.map .str ∧ JoinOk sep ts = true ∧ (Txt.join sep ts).length ≤ sizeLine ∧ k (.str (Txt.join sep ts)) st)
 <| zCp mid "str.strip" (onS x fun x => on0 vs (k (.str (Txt.strip x)) st))
 <| zCp mid "str.split" (onS x fun x => on2 vs fun y m => onS y fun y => onI m fun n => (y.length == 0) = false ∧ (decide (n < -(2 ^ 63 : Int)) || decide (n ≥ 2 ^ 63)) = false ∧ x.length + 2 ≤ sizeLine ∧ (Txt.splitMax x y n).length ≤ sizeLine ∧ k (.dat (.list ((Txt.splitMax x y n).map .str))) st)
 <| zCp mid "str.startswith" (onS x fun x => on1 vs fun y => onS y fun y => k (.bool (Txt.startswith x y)) st)
 <| zCp mid "str.endswith" (onS x fun x => on1 vs fun y => onS y fun y => k (.bool (Txt.endswith x y)) st)
 <| zCp mid "list.append" (onOb x fun i => on1 vs fun y => appT i y st fun st' => k .none st')
 <| zCp mid "list.pop" (onOb x fun i => on0 vs (∃ xs y, st.led[i]? = some (.list (xs ++ [y])) ∧ xs.length < sizeLine ∧ k y { st with led := st.led.set i (.list xs) })) False
noncomputable def zSv (st : St) (o i v : SV) (k : St → Prop) : Prop := onOb o fun j => onDL st.led[j]?
 (fun fs => onS i fun x => fs.length ≤ sizeLine ∧ k { st with led := st.led.set j (.dic (put x v fs)) })
 (fun xs => onI i fun z => 0 ≤ z ∧ z < (xs.length : Int) ∧ xs.length ≤ sizeLine ∧ k { st with led := st.led.set j (.list (xs.set z.toNat v)) })
noncomputable def zCW (e : Expr) : Bool := match e with
 | .Set .. => false
 | _ => true
noncomputable def zHD (e : Expr) : Bool := match e with
 | .Tuple .. => false
 | _ => true
noncomputable abbrev hkT {α : Type} (o : Option (HkE α)) (n : Nat) (x : α) (ns : List (Str × NameKind)) (st : St) (k : Kt) (p : Prop) : Prop := match o with
 | some h => onTr (Nat.ble h.d n) (h.x = x ∧ h.sp ns st k)
 | none => p
noncomputable def zSd (evn : List (Str × NameKind) → Tk → St → Kt → Prop) (elt tgt : Expr) (ifs : List Expr) (sc : Scope) (k : SV → St → Prop) (src : SV) (st₁ : St) : Prop := zRm (srcT st₁ src) fun all slot => zTU ifs
  (zBZ (zAN (zBE sc.names) tgt) none (fun st k => evn (zBE sc.names) (.ex elt) st k) src all slot st₁.led.length (st₁.led.length + 1) 0 all
    ⟨zBQ st₁.loc sc.names, st₁.led ++ [slot 0, .list []]⟩ (fun stE => zAg st₁.loc st₁.led.length (st₁.led.length + 1) stE k))
  (fun c => zBZ (zAN (zBE sc.names) tgt) (some fun st k => evn (zBE sc.names) (.tr c) st k) (fun st k => evn (zBE sc.names) (.ex elt) st k) src all slot st₁.led.length (st₁.led.length + 1) 0 all
    ⟨zBQ st₁.loc sc.names, st₁.led ++ [slot 0, .list []]⟩ (fun stE => zAg st₁.loc st₁.led.length (st₁.led.length + 1) stE k))
noncomputable def zNu (evn : List (Str × NameKind) → Tk → St → Kt → Prop) (ns : List (Str × NameKind)) (elt : Expr) (gens : List Comprehension) (sc : Scope) (st : St) (k : SV → St → Prop) : Prop := onE1 gens fun g => onTr (isZ g.is_async) (onTr (scOk ns sc) (onTr (zCW g.iter) (evn ns (.ex g.iter) st fun r st₁ => match r with
     | .v src => zSd evn elt g.target g.ifs sc k src st₁
     | _ => False)))
noncomputable def onV (K : SV → St → Prop) : Kt := fun a st => match a with
 | .v x => K x st
 | _ => False
noncomputable def onB (K : Bool → St → Prop) : Kt := fun a st => match a with
 | .b x => K x st
 | _ => False
noncomputable def onVs (K : List SV → St → Prop) : Kt := fun a st => match a with
 | .vs x => K x st
 | _ => False
noncomputable def zRk (C : Cf) (n : Nat) (ns : List (Str × NameKind)) (e : Option Expr) (st : St) (ev : List (Str × NameKind) → Tk → St → Kt → Prop) (k : Option Int → St → Prop) : Prop := match e with
 | none => k none st
 | some e => ev ns (.ex e) st <| onV fun r st₁ => match r with
  | .int i => k (some i) st₁
  | _ => False
noncomputable def zDC (C : Cf) (n : Nat) (evn : List (Str × NameKind) → Tk → St → Kt → Prop) (f : Addr) (vs : List SV) (st : St) (k : Kt) : Prop := match zIM f vs.length C.sps with
 | some e => match Nat.ble e.d n with
  | true => e.sp vs st k
  | false => False
 | none => match zFY f vs.length C.fns with
  | some e => evn e.scope.names (.sts e.body) { loc := zipS e.names vs ++ zCE e.more, led := st.led } (zOD st k)
  | none => False
noncomputable def ev (C : Cf) : Nat → List (Str × NameKind) → Tk → St → Kt → Prop
  | 0, _, _, _, _ => False
  | n + 1, ns, tk, st, k =>
    match tk with
    | .ex e => match e with
      | .Name x _ => onFa (Fast.sEq x "__debug__") (lgc (zAd x ns) (zBW (lk x st.loc) fun v => k (.v v) st) (zBW (lk x C.globs) fun v => k (.v (toSV v)) st)
          (zBW (lk x st.loc) fun y => onOb y fun i => zPD st.led[i]? fun c => zBW c fun v => k (.v v) st))
      | .Constant c _ _ => match c with
        | .none => k (.v .none) st
        | .bool b => k (.v (.bool b)) st
        | .int i => k (.v (.int i)) st
        | .str s => match zRo s with
          | true => k (.v (.str s)) st
          | false => False
        | _ => False
      | .Attribute o a _ => match zFD o with
        | false => False
        | true => ev C n ns (.ex o) st <| onV fun x st₁ =>
          match zTC C st₁ x a with
          | some f => zDC C n (ev C n) f [x] st₁ k
          | none => zSg C st₁ x a fun v => k (.v v) st₁
      | .BinOp l op r _ => ev C n ns (.ex l) st <| onV fun x st₁ =>
          ev C n ns (.ex r) st₁ <| onV fun y st₂ =>
            match zJN x with
            | true => match op with
              | .Add => zAt st₂ x fun ds => zAt st₂ y fun es => ds.length + es.length ≤ sizeLine ∧ k (.v (.dat (.list (ds ++ es)))) st₂
              | _ => False
            | false => binT op x y fun z => k (.v z) st₂
      | .Compare l ops rs _ => onE1 ops fun op => onE1 rs fun r => onFa (behindInMarks op r) (ev C n ns (.ex l) st <| onV fun x st₁ =>
              ev C n ns (.ex r) st₁ <| onV fun y st₂ =>
                cmpA n st₂ op x y fun z => k (.v (.bool z)) st₂)
      | .BoolOp op vs p => match vs with
        | [e] => ev C n ns (.ex e) st k
        | e₁ :: e₂ :: rest => match op with
          | .And => ev C n ns (.ex e₁) st <| onV fun x st₁ =>
              zDz st₁ x fun c => ifT c (ev C n ns (.ex (.BoolOp .And (e₂ :: rest) p)) st₁ k) (k (.v x) st₁)
          | .Or => ev C n ns (.ex e₁) st <| onV fun x st₁ =>
              zDz st₁ x fun c => ifT c (k (.v x) st₁) (ev C n ns (.ex (.BoolOp .Or (e₂ :: rest) p)) st₁ k)
        | [] => False
      | .UnaryOp op x _ => match op with
        | .USub => ev C n ns (.ex x) st <| onV fun y st₁ => match y with
          | .int i => k (.v (.int (-i))) st₁
          | _ => False
        | _ => False
      | .IfExp t a b _ => ev C n ns (.tr t) st <| onB fun c st₁ =>
          ifT c (ev C n ns (.ex a) st₁ k) (ev C n ns (.ex b) st₁ k)
      | .Tuple es _ pos => match zBw es with
        | false => False
        | true => ev C n ns (.args es pos) st <| onVs fun vs st₁ =>
            match Nat.ble vs.length 4096 with
            | true => k (.v (.obj st₁.led.length)) { st₁ with led := st₁.led ++ [.tup vs] }
            | false => False
      | .List es pos => match zBw es with
        | false => False
        | true => ev C n ns (.args es pos) st <| onVs fun vs st₁ =>
            match Nat.ble vs.length 4096 with
            | true => k (.v (.obj st₁.led.length)) { st₁ with led := st₁.led ++ [.list vs] }
            | false => False
      | .Subscript o i _ => match zJr i with
        | true => ev C n ns (.ex o) st <| onV fun x st₁ =>
              ev C n ns (.ex i) st₁ <| onV fun y st₂ =>
                subT st₂ x y fun z => k (.v z) st₂
        | false => match i with
          | .Slice lo hi stp _ => match stp with
            | none => ev C n ns (.ex o) st <| onV fun x st₁ =>
              zRk C n ns lo st₁ (ev C n) fun l st₂ => zRk C n ns hi st₂ (ev C n) fun u st₃ => slT st₃ x l u fun z st₄ => k (.v z) st₄
            | some _ => False
          | _ => False
      | .ListComp a b c pos => hkT (zBq pos.line pos.col C.hxs) n (.ListComp a b c pos) ns st k (zNu (ev C n) ns a b c st fun v st₁ => k (.v v) st₁)
      | .Dict ks vs _ => match ks with
        | [] => match vs with
          | [] => k (.v (.obj st.led.length)) { st with led := st.led ++ [.dic []] }
          | _ => False
        | _ => False
      | .Call f args kws pos => hkT (zBq pos.line pos.col C.hxs) n (.Call f args kws pos) ns st k <| match kws with
        | [] => match f with
          | .Attribute o m apos => match mcOk o args apos pos with
           | false => False
           | true => ev C n ns (.ex o) st <| onV fun x st₁ =>
              match zKD st₁ x with
              | true => zRq C st₁ x m fun fa => ev C n ns (.args args pos) st₁ <| onVs fun vs st₂ =>
                  zDC C n (ev C n) fa (x :: vs) st₂ k
              | false => bmT st₁ x m fun mid => ev C n ns (.args args pos) st₁ <| onVs fun vs st₂ =>
                  bcT mid st₂ x vs fun z st₃ => k (.v z) st₃
          | .Name _ _ => match zBw args with
           | false => False
           | true => ev C n ns (.ex f) st <| onV fun y st₁ => match y with
            | .val f => ev C n ns (.args args pos) st₁ <| onVs fun vs st₂ =>
                match zOy f with
                | some fa => zDC C n (ev C n) fa vs st₂ k
                | none => bfT f vs st₂ fun z st₃ => k (.v z) st₃
            | _ => False
          | _ => False
        | _ => False
      | _ => False
    | .args es pos => match es with
      | [] => k (.vs []) st
      | e :: rest => onFa (zQP e) (ev C n ns (.ex e) st <| onV fun x st₁ =>
            ev C n ns (.args rest pos) st₁ <| onVs fun vs st₂ =>
              k (.vs (x :: vs)) st₂)
    | .tr e => match e with
      | .BoolOp op vs p => match vs with
        | [] => match op with
          | .And => k (.b true) st
          | .Or => k (.b false) st
        | e₁ :: rest => match op with
          | .And => ev C n ns (.tr e₁) st <| onB fun c st₁ =>
              ifT c (ev C n ns (.tr (.BoolOp .And rest p)) st₁ k) (k (.b false) st₁)
          | .Or => ev C n ns (.tr e₁) st <| onB fun c st₁ =>
              ifT c (k (.b true) st₁) (ev C n ns (.tr (.BoolOp .Or rest p)) st₁ k)
      | .UnaryOp op x _ => match op with
        | .Not => ev C n ns (.tr x) st <| onB fun c st₁ =>
            k (.b (!c)) st₁
        | _ => False
      | .Compare l ops rs _ => onE1 ops fun op => onE1 rs fun r => onFa (behindInMarks op r) (ev C n ns (.ex l) st <| onV fun x st₁ =>
              ev C n ns (.ex r) st₁ <| onV fun y st₂ =>
                cmpA n st₂ op x y fun z => k (.b z) st₂)
      | .Name .. => ev C n ns (.ex e) st <| onV fun x st₁ =>
          zDz st₁ x fun c => k (.b c) st₁
      | .Attribute .. => ev C n ns (.ex e) st <| onV fun x st₁ =>
          zDz st₁ x fun c => k (.b c) st₁
      | .Call .. => ev C n ns (.ex e) st <| onV fun x st₁ =>
          zDz st₁ x fun c => k (.b c) st₁
      | .Constant .. => ev C n ns (.ex e) st <| onV fun x st₁ =>
          zDz st₁ x fun c => k (.b c) st₁
      | _ => False
    | .wl t b => ev C n ns (.tr t) st <| onB fun c st₁ =>
        ifT c (ev C n ns (.sts b) st₁ fun r st₂ => match r with
          | .next => ev C n ns (.wl t b) st₂ k
          | .cont => ev C n ns (.wl t b) st₂ k
          | .brk => k .next st₂
          | .ret x => k (.ret x) st₂
          | _ => False) (k .next st₁)
    | .sts l => match l with
      | [] => k .next st
      | s :: rest => ev C n ns (.st s) st fun r st₁ => match r with
        | .next => ev C n ns (.sts rest) st₁ k
        | .brk => k .brk st₁
        | .cont => k .cont st₁
        | .ret x => k (.ret x) st₁
        | _ => False
    | .st s => match s with
      | .Assign tgs v pos => match tgs with
        | [] => False
        | t₀ :: r₀ => match r₀ with
          | [] => match t₀ with
            | .Name x _ => zJz (zAd x ns)
              (match zAy v with
                | true => ev C n ns (.ex v) st <| onV fun y st₁ =>
                    k .next { st₁ with loc := put x y st₁.loc }
                | false => match v with
                  | .ListComp a b c _ => zNu (ev C n) ns a b c st fun y st₁ => k .next { st₁ with loc := put x y st₁.loc }
                  | _ => False)
              (match zAy v with
                | true => ev C n ns (.ex v) st <| onV fun y st₁ =>
                    stT ns x y st₁ fun st₂ => k .next st₂
                | false => match v with
                  | .ListComp a b c _ => zNu (ev C n) ns a b c st fun y st₁ => stT ns x y st₁ fun st₂ => k .next st₂
                  | _ => False)
            | .Tuple elts q p => match zAy v with
              | true => match zHD v with
                | true => ev C n ns (.ex v) st <| onV fun y st₁ =>
                    zAN ns (.Tuple elts q p) y st₁ fun st₂ => k .next st₂
                | false => False
              | false => False
            | .Subscript o i _ => match zAy v with
              | true => ev C n ns (.ex v) st <| onV fun y st₁ =>
                  ev C n ns (.ex o) st₁ <| onV fun x st₂ =>
                    ev C n ns (.ex i) st₂ <| onV fun z st₃ =>
                      zSv st₃ x z (unSg y) fun st₄ => k .next st₄
              | false => False
            | .Attribute o a _ => match zAy v with
              | true => ev C n ns (.ex v) st <| onV fun y st₁ =>
                  ev C n ns (.ex o) st₁ <| onV fun x st₂ =>
                    zGu C st₂ x a (unSg y) fun st₃ => k .next st₃
              | false => False
            | _ => False
          | t₁ :: r₁ => match r₁ with
            | [] => match t₀ with
              | .Name x _ => match t₁ with
                | .Name z _ => match zAy v with
                  | true => match zHD v with
                    | true => ev C n ns (.ex v) st <| onV fun y st₁ =>
                        stT ns x y st₁ fun st₂ => stT ns z y st₂ fun st₃ => k .next st₃
                    | false => False
                  | false => False
                | _ => False
              | _ => False
            | _ :: _ => False
      | .AugAssign tg op v _ => match op with
        | .Add => match tg with
          | .Name x _ => zJz (zAd x ns) (zBW (lk x st.loc) fun old => ev C n ns (.ex v) st <| onV fun y st₁ =>
                  addT old y fun z => k .next { st₁ with loc := put x z st₁.loc }) False
          | .Attribute o a _ => ev C n ns (.ex o) st <| onV fun x st₁ =>
              zSg C st₁ x a fun old => ev C n ns (.ex v) st₁ <| onV fun y st₂ =>
                addT old y fun z => zGu C st₂ x a z fun st₃ => k .next st₃
          | _ => False
        | _ => False
      | .If t b e _ => ev C n ns (.tr t) st <| onB fun c st₁ =>
          ifT c (ev C n ns (.sts b) st₁ k) (ev C n ns (.sts e) st₁ k)
      | .Return v pos => hkT (zBq pos.line pos.col C.hss) n (.Return v pos) ns st k <| match v with
          | some e => ev C n ns (.ex e) st <| onV fun x st₁ =>
              k (.ret x) st₁
          | none => k (.ret .none) st
      | .Break _ => k .brk st
      | .Continue _ => k .cont st
      | .Pass _ => k .next st
      | .For a b c d pos => hkT (zBq pos.line pos.col C.hss) n (.For a b c d pos) ns st k <| match d with
          | [] => match zCW b with
            | true => ev C n ns (.ex b) st <| onV fun src st₁ =>
                zRm (srcT st₁ src) fun all slot => forE (zAN ns a) (fun st k => ev C n ns (.sts c) st k) src all slot st₁.led.length 0 all { st₁ with led := st₁.led ++ [slot 0] } k
            | false => False
          | _ => False
      | .Try a b c d pos => hkT (zBq pos.line pos.col C.hss) n (.Try a b c d pos) ns st k False
      | .While t b e pos => hkT (zBq pos.line pos.col C.hss) n (.While t b e pos) ns st k <| match e with
          | [] => ev C n ns (.wl t b) st k
          | _ => False
      | .Expr e _ => match e with
        | .Call .. => ev C n ns (.ex e) st <| onV fun _ st₁ =>
            k .next st₁
        | _ => False
      | _ => False
structure FnOk (K : Frag) (e : FnE) : Prop where
 at_ : ∃ oc od osl fd, K.lookup e.fa = some (⟨oc, od, .func fd, osl⟩ : Obj) ∧ fd.body = .stmts e.body ∧ fd.scope = e.scope ∧ (∀ L a, callEnv fd L a = envOf e.qual e.scope L a e.cd) ∧ fd.code = e.cd ∧ fd.qualname = e.qual ∧
  ∀ (s : Shared) (vs : List Value), K.In s.heap → vs.length = e.na → BindsTo s fd ⟨vs, []⟩ (zipV e.names vs ++ e.more)
 celk : ∀ x ∈ e.cells, e.scope.names.lookup x = some .cell
 code : codeIn K e.cd e.qual = true
 cells : ∀ n, (cellsFrom n e.scope.names []).map (·.1) = e.cells
 loc : ∀ x ∈ e.names ++ e.more.map (·.1), e.scope.names.lookup x = some .local ∨ (e.scope.names.lookup x = some .cell ∧ x ∈ e.cells)
 nd : (e.names ++ e.more.map (·.1)).Nodup
 len : e.names.length = e.na
 co : e.scope.isCoroutine = false
 gen : e.scope.isGenerator = false
 kind : e.scope.kind = .function
 more : ∀ x ∈ e.more, ∀ B ads, Den B ads (toSV x.2) x.2
structure ClsOk (K : Frag) (c : ClsE) : Prop where
 get : ∀ a, zBl a c.attrs = true → plainGet K c.C a = true ∧ hasDictIn K c.C = true ∧ findIn K (.ref c.C) a = some none
 set : ∀ a, zBl a c.attrs = true → findIn K (.ref c.C) "__setattr__" = some (some (.builtin "object.__setattr__")) ∧ plainOver K c.C = true ∧ takerIn K c.C a = some none
 meth : ∀ a f, lk a c.meths = some f → plainGet K c.C a = true ∧ findIn K (.ref c.C) a = some (some (.ref f)) ∧ isFn K (.ref f) = true
 prop : ∀ a p f, lk a c.props = some (p, f) → plainGet K c.C a = true ∧ hasDictIn K c.C = true ∧ findIn K (.ref c.C) a = some (some (.ref p)) ∧ specialIn K (.ref p) "__get__" = some (some (.builtin "property.__get__")) ∧ takesIn K (.ref p) = some true ∧ ∃ rest, recIn K p "property" = some (.ref f :: rest)
noncomputable def Goal (w : World) (F : Fm) (tk : Tk) (Q : CR → Shared → Prop) (E : Value → Shared → Prop) (s : Shared) : Prop := match tk with
 | .ex e => wpAny (model prog w) F.A (eval e F.env) (fun v s' => Q (.v v) s') E s
 | .tr e => wpAny (model prog w) F.A (PySem.isTrue e F.env (eval e F.env)) (fun b s' => Q (.b b) s') E s
 | .st x => wpAny (model prog w) F.A (exec x F.env) (fun f s' => Q (.fl f) s') E s
 | .sts l => wpAny (model prog w) F.A (execs l F.env) (fun f s' => Q (.fl f) s') E s
 | .args es pos => wpAny (model prog w) F.A (spliced (backTo pos (starEach es F.env))) (fun vs s' => Q (.vs vs) s') E s
 | .wl t b => codeAny (model prog w) F.A (.whileLoop t b [] F.env) (fun r s' => match r with
  | .ok f => Q (.fl f) s'
  | .error e => cameBackBy (model prog w) F.A F.env E e s') s
structure SpOk (w : World) (C : Cf) (e : SpE) : Prop where
 keep : keepIn C.K (.ref e.fa) = true
 ok : ∀ (F : Fm) (A : Around) (ads : Wd) (st : St) (s : Shared) (svs : List SV) (vs : List Value) (k : Kt) (Q : CR → Shared → Prop) (Rr : Result → Shared → Prop), FmOk C F → (C.known = true → A.frames = some F.stk) → A.handled = none → A.depth + e.d < recursionLimit → A.units + 8 * e.d < cLine →
  e.sp svs st k → Rep w F ads st s.heap → DenL F.B ads svs vs → vs.length = e.na → Then w F ads s k Q → (∀ v s', Q (.v v) s' → Rr (.ok (.ret v)) s') → codeAny (model prog w) A (.call (.ref e.fa) ⟨vs, []⟩) Rr s
noncomputable def HxOk (w : World) (C : Cf) (h : HkE Expr) : Prop := ∀ (F : Fm) (E : Value → Shared → Prop) (ads : Wd) (st : St) (s : Shared) (k : Kt) (Q : CR → Shared → Prop), FmOk C F → F.A.depth + h.d < recursionLimit → F.A.units + 8 * h.d < cLine →
  h.sp F.sc.names st k → Rep w F ads st s.heap → Then w F ads s k Q → Goal w F (.ex h.x) Q E s
noncomputable def HsOk (w : World) (C : Cf) (h : HkE Stmt) : Prop := ∀ (F : Fm) (E : Value → Shared → Prop) (ads : Wd) (st : St) (s : Shared) (k : Kt) (Q : CR → Shared → Prop), FmOk C F → F.A.depth + h.d < recursionLimit → F.A.units + 8 * h.d < cLine →
  h.sp F.sc.names st k → Rep w F ads st s.heap → Then w F ads s k Q → Goal w F (.st h.x) Q E s
structure CfOk (w : World) (C : Cf) : Prop where
 fns : ∀ e ∈ C.fns, FnOk C.K e ∧ keepIn C.K (.ref e.fa) = true ∧ ∀ x ∈ e.scope.names, x.2 ≠ .cell
 cls : ∀ c ∈ C.cls, ClsOk C.K c
 globs : ∀ x v, lk x C.globs = some v → (∀ B ads, Den B ads (toSV v) v) ∧ (nsIn C.K mainGlobals x = some (some v) ∨ (nsIn C.K mainGlobals x = some none ∧ bootBuiltins x = some v ∧ x ≠ "__name__"))
 sps : ∀ e ∈ C.sps, SpOk w C e
 hxs : ∀ e ∈ C.hxs, HxOk w C e
 hss : ∀ e ∈ C.hss, HsOk w C e
noncomputable def zBN (w : World) (C : Cf) (n : Nat) : Prop := ∀ (F : Fm) (E : Value → Shared → Prop) (tk : Tk) (st : St) (k : Kt) (ads : Wd) (s : Shared) (Q : CR → Shared → Prop),
 FmOk C F → F.A.depth + n < recursionLimit → F.A.units + 8 * n < cLine → ev C n F.sc.names tk st k → Rep w F ads st s.heap → Then w F ads s k Q → Goal w F tk Q E s
section
variable {w : World} {C : Cf} {F : Fm} {ads : Wd} {s : Shared}
theorem zFX {f n : Nat} {e : FnE} : ∀ {l : List FnE}, zFY f n l = some e → e ∈ l ∧ e.fa = f ∧ e.na = n
 | [], h => by cases h
 | x :: r, h => by
  unfold zFY at h
  cases q : Nat.beq x.fa f with
  | true =>
   rw [q] at h
   cases q' : Nat.beq x.na n with
   | true => rw [q'] at h; cases h; exact ⟨.head _, Nat.eq_of_beq_eq_true q, Nat.eq_of_beq_eq_true q'⟩
   | false => rw [q'] at h; obtain ⟨a, b⟩ := zFX h; exact ⟨.tail _ a, b⟩
  | false => rw [q] at h; obtain ⟨a, b⟩ := zFX h; exact ⟨.tail _ a, b⟩
theorem zDc {c : Nat} {e : ClsE} : ∀ {l : List ClsE}, findCls c l = some e → e ∈ l ∧ e.C = c
 | [], h => by cases h
 | x :: r, h => by
  unfold findCls at h
  cases q : Nat.beq x.C c with
  | true => rw [q] at h; cases h; exact ⟨.head _, Nat.eq_of_beq_eq_true q⟩
  | false => rw [q] at h; obtain ⟨a, b⟩ := zDc h; exact ⟨.tail _ a, b⟩
theorem zDO {st : St} {i c : Nat} {fs : List (Str × SV)} {v : Value} {m : Str → Option Value} {news lw : List (Addr × Obj)} (X : RepX w F ads st s.heap m news lw) (hi : st.led[i]? = some (.inst c fs)) (d : Den F.B ads (.obj i) v) :
  ∃ pre post a dd es n, news = pre ++ (a, instObj c dd) :: (dd, dictOf es n) :: post ∧ v = .ref a ∧ EntR w.params F.B ads es fs ∧ InstAt s.heap a (instObj c dd) c (some (dictOf es n)) ∧
   (∀ p ∈ pre ++ [(a, instObj c dd)], p.1 ≠ dd) ∧ (∀ p ∈ post ++ (ads.fz ++ lw), p.1 ≠ dd) ∧
   ∀ es' n' fs', EntR w.params F.B ads es' fs' → LedR w.params F.B ads ads.ads (st.led.set i (.inst c fs')) (pre ++ (a, instObj c dd) :: (dd, dictOf es' n') :: post) := by
 obtain ⟨pre, ps, post, a, dd, h1, h2, h3, h4⟩ := X.led.at hi
 obtain ⟨es, n, he, rfl⟩ := h3.inv
 ·obtain ⟨p, hp, hv⟩ := d
  rw [h2] at hp
  cases hp
  have h1' : news = pre ++ (a, instObj c dd) :: (dd, dictOf es n) :: post := by rw [h1]; simp
  have nd := X.nd
  rw [h1'] at nd
  have I : InstAt s.heap a (instObj c dd) c (some (dictOf es n)) := InstAt.of_news (h₀ := F.h₀) (L := F.L) X.nw (by rw [h1']; simp) (by rw [h1']; simp)
  have e : (pre ++ (a, instObj c dd) :: (dd, dictOf es n) :: post ++ (ads.fz ++ lw)).map (·.1) = (pre ++ [(a, instObj c dd)]).map (·.1) ++ dd :: (post ++ (ads.fz ++ lw)).map (·.1) := by simp
  rw [e] at nd
  have nd' := List.nodup_append.mp nd
  refine ⟨pre, post, a, dd, es, n, h1', hv, he, I, fun q hq => ?_, fun q hq => ?_, fun es' n' fs' e' => by simpa using h4 _ _ (One.inst (n := n') e')⟩
  ·exact nd'.2.2 q.1 (List.mem_map_of_mem hq) dd (.head _)
  ·intro ee
   have := (List.nodup_cons.mp nd'.2.1).1
   exact this (ee ▸ List.mem_map_of_mem hq)
theorem zGl {st : St} {x : SV} {a : Str} {k : SV → Prop} {v : Value} {E : Value → Shared → Prop} {Q : Value → Shared → Prop} {ex : Bool} (cok : CfOk w C) (ok : FmOk C F) (R : Rep w F ads st s.heap) (d : Den F.B ads x v) (h : zSg C st x a k)
  (hQ : ∀ y u t, k y → Den F.B ads y u → Q u { s with toks := t }) : wpAny (model prog w) F.A (getAttr v a ex) Q E s := by
 obtain ⟨i, rfl, g⟩ := zBL h
 obtain ⟨c, fs, hi, g⟩ := zCx g
 obtain ⟨ce, hc, g⟩ := zAM g
 obtain ⟨hn, g⟩ := zAz g
 obtain ⟨y, hy, gk⟩ := zAM g
 obtain ⟨m, news, lw, X⟩ := R
 obtain ⟨pre, post, b, dd, es, n, h1, rfl, he, I, _⟩ := zDO X hi d
 obtain ⟨hm, rfl⟩ := zDc hc
 obtain ⟨g1, g2, g3⟩ := (cok.cls ce hm).get a hn
 obtain ⟨u, e1, e2⟩ := he.get hy
 exact get_own X.fr ok.X I g1 g2 g3 rfl e1 e2.handed (hQ y u _ gk e2)
theorem zGK {α : Type} (x : Str) (v : α) : ∀ l : List (Str × α), (put x v l).length ≤ l.length + 1
 | [] => Nat.le_refl _
 | (y, a) :: r => by
  unfold put
  cases Fast.sEq x y with
  | true => exact Nat.le_succ _
  | false => exact Nat.succ_le_succ (zGK x v r)
theorem zDK {st : St} {x y : SV} {a : Str} {k : St → Prop} {v u : Value} {E : Value → Shared → Prop} {Q : Unit → Shared → Prop} (cok : CfOk w C) (ok : FmOk C F) (R : Rep w F ads st s.heap) (d : Den F.B ads x v) (d' : Den F.B ads y u) (h : zGu C st x a y k)
  (hQ : ∀ st' h' t, k st' → Rep w F ads st' h' → Q () { s with heap := h', toks := t }) : wpAny (model prog w) F.A (setAttr v a u) Q E s := by
 obtain ⟨i, rfl, g⟩ := zBL h
 obtain ⟨c, fs, hi, g⟩ := zCx g
 obtain ⟨ce, hc, g⟩ := zAM g
 obtain ⟨hn, g⟩ := zAz g
 obtain ⟨hz, gk⟩ := zAz g
 obtain ⟨m, news, lw, X⟩ := R
 obtain ⟨pre, post, b, dd, es, n, h1, rfl, he, I, n1, n2, h4⟩ := zDO X hi d
 obtain ⟨hm, rfl⟩ := zDc hc
 obtain ⟨g1, g2, g3⟩ := (cok.cls ce hm).get a hn
 obtain ⟨s1, s2, s3⟩ := (cok.cls ce hm).set a hn
 have he' := he.set (x := a) (t := s.toks + 1) d'
 have hU : Upd dd (dictOf es n) (dictOf (putL a (PyData.keyHash w.params a) (.str a (s.toks + 1)) u es) (putN a es n)) (news ++ (ads.fz ++ lw)) (pre ++ (b, instObj ce.C dd) :: (dd, dictOf (putL a (PyData.keyHash w.params a) (.str a (s.toks + 1)) u es) (putN a es n)) :: post ++ (ads.fz ++ lw)) := by
  rw [h1]
  have : ∀ (l : List (Addr × Obj)), (∀ p ∈ l, p.1 ≠ dd) → Upd dd (dictOf es n) (dictOf (putL a (PyData.keyHash w.params a) (.str a (s.toks + 1)) u es) (putN a es n)) (l ++ (dd, dictOf es n) :: (post ++ (ads.fz ++ lw))) (l ++ (dd, dictOf (putL a (PyData.keyHash w.params a) (.str a (s.toks + 1)) u es) (putN a es n)) :: (post ++ (ads.fz ++ lw))) := by
   intro l
   induction l with
   | nil => intro _; exact .head n2
   | cons p l ih => intro hp; exact .tail (hp p (.head _)) (ih fun q hq => hp q (.tail _ hq))
  have z := this (pre ++ [(b, instObj ce.C dd)]) n1
  simpa using z
 refine set_dict X.fr ok.X X.nw I rfl s1 s2 s3 g2 he.some rfl hU ?_ (fun h' F' N' => hQ _ h' _ gk ⟨m, _, lw, F', N', X.loc, h4 _ _ _ he', ?_, X.ups⟩)
 ·have l1 := he'.length
  have l2 := zGK a y fs
  have l3 := Nat.le_of_ble_eq_true hz
  lia
 ·have nd := X.nd
  rw [h1] at nd
  simpa using nd
theorem zHP {f n : Nat} {e : SpE} : ∀ {l : List SpE}, zIM f n l = some e → e ∈ l ∧ e.fa = f ∧ e.na = n
 | [], h => by cases h
 | x :: r, h => by
  unfold zIM at h
  cases q : Nat.beq x.fa f with
  | true =>
   rw [q] at h
   cases q' : Nat.beq x.na n with
   | true => rw [q'] at h; cases h; exact ⟨.head _, Nat.eq_of_beq_eq_true q, Nat.eq_of_beq_eq_true q'⟩
   | false => rw [q'] at h; obtain ⟨a, b⟩ := zHP h; exact ⟨.tail _ a, b⟩
  | false => rw [q] at h; obtain ⟨a, b⟩ := zHP h; exact ⟨.tail _ a, b⟩
theorem zHQ {α : Type} {a b : Nat} {e : HkE α} : ∀ {l : List (HkE α)}, zBq a b l = some e → e ∈ l
 | [], h => by cases h
 | x :: r, h => by
  unfold zBq at h
  cases q : Nat.beq x.line a with
  | true =>
   rw [q] at h
   cases q' : Nat.beq x.col b with
   | true => rw [q'] at h; cases h; exact .head _
   | false => rw [q'] at h; exact .tail _ (zHQ h)
  | false => rw [q] at h; exact .tail _ (zHQ h)
theorem zBX {x : Str} {v : Value} : ∀ {l : List (Str × Value)}, (l.map (·.1)).Nodup → (x, v) ∈ l → l.reverse.lookup x = some v := by
 intro l nd hm
 have : ∀ (l : List (Str × Value)), (l.map (·.1)).Nodup → (x, v) ∈ l → l.lookup x = some v := by
  intro l
  induction l with
  | nil => intro _ h; cases h
  | cons p r ih =>
   intro nd h
   rw [List.map_cons, List.nodup_cons] at nd
   rcases List.mem_cons.mp h with e | h
   ·subst e
    rw [List.lookup_cons, beq_self_eq_true]
   ·rw [List.lookup_cons]
    have : (x == p.1) = false := beq_eq_false_iff_ne.mpr fun e => nd.1 (e ▸ List.mem_map_of_mem h)
    rw [this]; exact ih nd.2 h
 refine this _ ?_ (by simpa using hm)
 rw [List.map_reverse]
 exact (List.reverse_perm _).nodup_iff.mpr nd
theorem zBT : ∀ (xs : List Str) (vs : List Value), xs.length = vs.length → (zipV xs vs).map (·.1) = xs
 | [], [], _ => rfl
 | x :: xs, v :: vs, h => by
  show x :: (zipV xs vs).map (·.1) = _
  rw [zBT xs vs (by simpa using h)]
 | [], _ :: _, h => by simp at h
 | _ :: _, [], h => by simp at h
theorem zMx {B : Heap} {x : Str} {sv : SV} {more : List (Str × Value)} (hmore : ∀ y ∈ more, Den B ads (toSV y.2) y.2) : ∀ {xs : List Str} {svs : List SV} {vs : List Value}, DenL B ads svs vs → lk x (zipS xs svs ++ zCE more) = some sv →
  ∃ v, (x, v) ∈ zipV xs vs ++ more ∧ Den B ads sv v := by
 have base : ∀ more : List (Str × Value), (∀ y ∈ more, Den B ads (toSV y.2) y.2) → lk x (zCE more) = some sv → ∃ v, (x, v) ∈ more ∧ Den B ads sv v := by
  intro more
  induction more with
  | nil => intro _ h; cases h
  | cons p r ih =>
   intro hm h
   obtain ⟨y, u⟩ := p
   unfold zCE lk at h
   cases q : Fast.sEq x y with
   | true =>
    rw [q] at h; cases h
    have := zAQ q; subst this
    exact ⟨u, .head _, hm _ (.head _)⟩
   | false =>
    rw [q] at h
    obtain ⟨v, a, b⟩ := ih (fun z hz => hm z (.tail _ hz)) h
    exact ⟨v, .tail _ a, b⟩
 intro xs
 induction xs with
 | nil => intro svs vs d h; exact base more hmore (by cases svs <;> exact h)
 | cons y ys ih =>
  intro svs vs d h
  cases d with
  | nil => exact base more hmore h
  | cons dx dr =>
   rename_i sx u sxs us
   have h' : lk x ((y, sx) :: (zipS ys sxs ++ zCE more)) = some sv := h
   unfold lk at h'
   cases q : Fast.sEq x y with
   | true =>
    rw [q] at h'; cases h'
    have := zAQ q; subst this
    exact ⟨u, .head _, dx⟩
   | false =>
    rw [q] at h'
    obtain ⟨v, a, b⟩ := ih dr h'
    exact ⟨v, .tail _ a, b⟩
set_option backward.match.sparseCases true
theorem zDf {args : Args} {n f : Nat} {svs : List SV} {vs : List Value} {st : St} {k : Kt} {e : FnE} {A : Around} {Rr : Result → Shared → Prop} {Q : CR → Shared → Prop} (ih : zBN w C n) (cok : CfOk w C) (ok : FmOk C F)
  (hA : C.known = true → A.frames = some F.stk) (hh : A.handled = none) (hd : A.depth + n < recursionLimit) (hd' : A.depth + 1 + n < recursionLimit) (hu : A.units + 3 + 8 * n < cLine) (R : Rep w F ads st s.heap) (D : DenL F.B ads svs vs) (hf : zFY f svs.length C.fns = some e)
  (hb : ∀ (oc : Value) (od : Option Addr) (osl : Array (Option Value)) (fd : FuncData), C.K.lookup e.fa = some (⟨oc, od, .func fd, osl⟩ : Obj) → C.K.In s.heap → BindsTo s fd args (zipV e.names vs ++ e.more))
  (h : ev C n e.scope.names (.sts e.body) { loc := zipS e.names svs ++ zCE e.more, led := st.led } (zOD st k)) (T : Then w F ads s k Q) (hR : ∀ v s', Q (.v v) s' → Rr (.ok (.ret v)) s') :
  codeAny (model prog w) A (.call (.ref f) args) Rr s := by
 obtain ⟨hm, rfl, hna⟩ := zFX hf
 have fo := (cok.fns e hm).1
 have fcell := (cok.fns e hm).2.2
 have nocell : ∀ x, e.scope.names.lookup x = some .cell → (NameKind.cell ≠ NameKind.cell) := fun x hx => fcell _ (mem_of_lookup hx)
 have floc : ∀ x ∈ e.names ++ e.more.map (·.1), e.scope.names.lookup x = some .local := fun x hx => (fo.loc x hx).resolve_right fun q => nocell x q.1 rfl
 obtain ⟨oc, od, osl, fd, g1, g2, g3, g4, g5, g6, g7⟩ := fo.at_
 obtain ⟨m, news, lw, X⟩ := R
 have XK : C.K.In s.heap := ok.X.keeps X.fr.keep
 have hlen : vs.length = e.na := by rw [← D.length, hna]
 obtain ⟨oL, es, ep, hL, hLd, hLk, hLf⟩ := X.fr.ns
 have hF0 : F.h₀.get? F.L = none := by
  cases q : F.h₀.get? F.L with
  | none => rfl
  | some o => exact absurd (Heap.lt_size q) (Nat.not_lt.mpr X.fr.above)
 let all : List (Addr × Obj) := news ++ (ads.fz ++ ((F.L, oL) :: lw))
 have pmA : all.Perm ((F.L, oL) :: (news ++ (ads.fz ++ lw))) := by
  show (news ++ (ads.fz ++ ((F.L, oL) :: lw))).Perm _
  rw [← List.append_assoc, ← List.append_assoc]
  exact List.perm_middle
 have nwA : ∀ p ∈ all, s.heap.get? p.1 = some p.2 ∧ F.h₀.get? p.1 = none := fun p hp => by
  rcases List.mem_cons.mp (pmA.mem_iff.mp hp) with rfl | q
  ·exact ⟨hL, hF0⟩
  ·exact ⟨(X.nw p q).1, (X.nw p q).2.2⟩
 have ndA : (all.map (·.1)).Nodup := by
  refine (pmA.map (·.1)).nodup_iff.mpr (List.nodup_cons.mpr ⟨fun q => ?_, X.nd⟩)
  obtain ⟨p, hp, e⟩ := List.mem_map.mp q
  exact (X.nw p hp).2.1 e
 have nm : ∀ b o, F.h₀.get? b = some o → b ∉ all.map (·.1) := fun b o e q => by
  obtain ⟨p, hp, rfl⟩ := List.mem_map.mp q
  rw [(nwA p hp).2] at e; cases e
 have stay : F.h₀.StaysIn (hideAll s.heap (all.map (·.1))) := fun b o e => hideAll_get _ (X.fr.keep b o e) (nm b o e)
 refine (codeAny_call_def (body := e.body) (binds := zipV e.names vs ++ e.more) (by omega) (XK _ _ g1) rfl (ok.G.lim.keeps X.fr.keep) (by rw [g5, g6]; exact codeRec_of XK fo.code) g2 (hb oc od osl fd g1 XK)
  (by rw [g3]; exact fcell) (by
   rw [g3]
   intro x hx
   refine floc x.1 ?_
   rcases List.mem_append.mp hx with q | q
   ·exact List.mem_append_left _ (zBT e.names vs (by rw [fo.len, hlen]) ▸ List.mem_map_of_mem q)
   ·exact List.mem_append_right _ (List.mem_map_of_mem q)) (fun h₁ hns hk₁ => ?_) (by rw [g3]; exact fo.co) (by rw [g3]; exact fo.gen) (by rw [g3]; exact fo.kind))
 rw [g4]
 let en : Env := envOf e.qual e.scope s.heap.objs.size e.fa e.cd
 let F' : Fm := ⟨F.B, hideAll s.heap (all.map (·.1)), s.heap.objs.size, en, A.deeper en, en :: F.stk, (F.L, oL) :: lw, F.quiet⟩
 have low' : LowOk (en :: F.stk) s.heap.objs.size ((F.L, oL) :: lw) := by
  exact (ok.low.ups X.ups).push (by show e.scope.kind ≠ _; rw [fo.kind]; decide) rfl fun vs q => by rw [hLd] at q; cases q
 have ok' : FmOk C F' := ⟨ok.X.keeps stay, ok.G.keeps stay, fun b o e => stay b o (ok.stay b o e), fo.kind, hh, fun q => Around.frames_deeper (hA q), ok.loud, low', rfl, rfl, rfl, fun _ _ => rfl, fun x hx => absurd rfl (nocell x hx)⟩
 have nd : ((zipV e.names vs ++ e.more).map (·.1)).Nodup := by
  rw [List.map_append, zBT e.names vs (by rw [fo.len, hlen])]; exact fo.nd
 have R' : Rep w F' ads { loc := zipS e.names svs ++ zCE e.more, led := st.led } h₁ := by
  refine ⟨_, news, (F.L, oL) :: lw, ⟨hns, fun b o q => hk₁ b o (of_hideAll _ q), Nat.le_of_eq (hideAll_size _ _)⟩, fun p hp => ⟨hk₁ _ _ (nwA p hp).1, Nat.ne_of_lt (Heap.lt_size (nwA p hp).1), hideAll_none _ (List.mem_map_of_mem hp)⟩, ?_, X.led, ndA, Ups.refl _⟩
  intro x sv hx
  obtain ⟨v, a, b⟩ := zMx (fun y hy => fo.more y hy F.B ads) D hx
  exact ⟨v, zBX nd a, b⟩
 have T' : Then w F' ads { s with heap := h₁, toks := s.toks + (zipV e.names vs ++ e.more).length } (zOD st k) (fun c s' => match c with
   | .fl f => Rr (.ok (.ret (match f with | .ret v => v | _ => .none))) s'
   | _ => False) := by
  intro r st' more c s' hk R1 x d
  obtain ⟨m', news', lw', X'⟩ := R1
  have back : Rep w F (wa ads more) { loc := st.loc, led := st'.led } s'.heap := by
   have u := X'.ups
   have nw' := X'.nw
   have nd' := X'.nd
   cases u with
   | cons u =>
    rename_i sl lw₂
    have pm : (news' ++ ((wa ads more).fz ++ ((F.L, { oL with slots := sl }) :: lw₂))).Perm ((F.L, { oL with slots := sl }) :: (news' ++ ((wa ads more).fz ++ lw₂))) := by
     rw [← List.append_assoc, ← List.append_assoc]
     exact List.perm_middle
    have nd2 := (pm.map (·.1)).nodup_iff.mp nd'
    rw [List.map_cons, List.nodup_cons] at nd2
    have hLn := (nw' _ (pm.mem_iff.mpr (.head _))).1
    refine ⟨m, news', lw₂, ⟨⟨_, es, ep, hLn, hLd, hLk, hLf⟩, fun b o q => X'.fr.keep b o (stay b o q), X.fr.above⟩, fun p hp => ⟨(nw' p (pm.mem_iff.mpr (.tail _ hp))).1, fun q => ?_, ?_⟩, X.loc.mono, X'.led, nd2.2, X.ups.trans u⟩
    ·exact nd2.1 (List.mem_map.mpr ⟨p, hp, q⟩)
    ·cases q : F.h₀.get? p.1 with
     | none => rfl
     | some o =>
      have hz : (hideAll s.heap (all.map (·.1))).get? p.1 = none := (nw' p (pm.mem_iff.mpr (.tail _ hp))).2.2
      rw [stay _ _ q] at hz; cases hz
  have x' : Nx F s s' := (Nx.mk' s h₁ _).trans x
  cases r with
  | ret v =>
   cases c with
   | fl fl => cases fl with
    | ret u => exact hR _ _ (T.of (r := .v v) (c := .v u) hk back x' d)
    | _ => exact d.elim
   | _ => exact d.elim
  | next =>
   cases c with
   | fl fl => cases fl with
    | next => exact hR _ _ (T.of (r := .v .none) (c := .v .none) hk back x' rfl)
    | _ => exact d.elim
   | _ => exact d.elim
  | _ => exact hk.elim
 exact ih F' _ (.sts e.body) _ _ ads _ _ ok' (by show A.depth + 1 + n < _; omega) (by show A.units + 3 + 8 * n < _; omega) h R' T'
set_option backward.match.sparseCases false
theorem zCe {n f : Nat} {svs : List SV} {vs : List Value} {st : St} {k : Kt} {e : FnE} {A : Around} {Rr : Result → Shared → Prop} {Q : CR → Shared → Prop} (ih : zBN w C n) (cok : CfOk w C) (ok : FmOk C F)
  (hA : C.known = true → A.frames = some F.stk) (hh : A.handled = none) (hd : A.depth + n < recursionLimit) (hd' : A.depth + 1 + n < recursionLimit) (hu : A.units + 3 + 8 * n < cLine) (R : Rep w F ads st s.heap) (D : DenL F.B ads svs vs) (hf : zFY f svs.length C.fns = some e)
  (h : ev C n e.scope.names (.sts e.body) { loc := zipS e.names svs ++ zCE e.more, led := st.led } (zOD st k)) (T : Then w F ads s k Q) (hR : ∀ v s', Q (.v v) s' → Rr (.ok (.ret v)) s') :
  codeAny (model prog w) A (.call (.ref f) ⟨vs, []⟩) Rr s := by
 refine zDf ih cok ok hA hh hd hd' hu R D hf (fun oc od osl fd g1 XK => ?_) h T hR
 obtain ⟨hm, rfl, hna⟩ := zFX hf
 obtain ⟨oc', od', osl', fd', g1', g2, g3, g4, g5, g6, g7⟩ := (cok.fns e hm).1.at_
 rw [g1] at g1'
 cases g1'
 exact g7 s vs XK (by rw [← D.length, hna])
theorem zGj {n f : Nat} {svs : List SV} {vs : List Value} {st : St} {k : Kt} {A : Around} {Rr : Result → Shared → Prop} {Q : CR → Shared → Prop} (ih : zBN w C n) (cok : CfOk w C) (ok : FmOk C F)
  (hA : C.known = true → A.frames = some F.stk) (hh : A.handled = none) (hd' : A.depth + 1 + n < recursionLimit) (hu : A.units + 3 + 8 * n < cLine) (R : Rep w F ads st s.heap) (D : DenL F.B ads svs vs)
  (h : zDC C n (ev C n) f svs st k) (T : Then w F ads s k Q) (hR : ∀ v s', Q (.v v) s' → Rr (.ok (.ret v)) s') : codeAny (model prog w) A (.call (.ref f) ⟨vs, []⟩) Rr s := by
 unfold zDC at h
 split at h
 ·rename_i e he
  split at h
  ·rename_i hb
   obtain ⟨hm, rfl, hna⟩ := zHP he
   have l := Nat.le_of_ble_eq_true hb
   exact (cok.sps e hm).ok F A ads st s svs vs k Q Rr ok hA hh (by lia) (by lia) h R D (by rw [← D.length, hna]) T hR
  ·exact h.elim
 ·split at h
  ·rename_i e he
   exact zCe ih cok ok hA hh (by lia) hd' hu R D he h T hR
  ·exact h.elim
theorem zGi {n f : Nat} {svs : List SV} {st : St} {k : Kt} {evn : List (Str × NameKind) → Tk → St → Kt → Prop} (cok : CfOk w C) (h : zDC C n evn f svs st k) : keepIn C.K (.ref f) = true := by
 unfold zDC at h
 split at h
 ·rename_i e he
  obtain ⟨hm, rfl, hna⟩ := zHP he
  exact (cok.sps e hm).keep
 ·split at h
  ·rename_i e he
   obtain ⟨hm, rfl, hna⟩ := zFX he
   exact (cok.fns e hm).2.1
  ·exact h.elim
theorem zFg {n f : Nat} {svs : List SV} {vs : List Value} {st : St} {k : Kt} {E : Value → Shared → Prop} {Q : CR → Shared → Prop} (ih : zBN w C n) (cok : CfOk w C) (ok : FmOk C F)
  (hd : F.A.depth + (n + 1) < recursionLimit) (hu : F.A.units + 8 * (n + 1) < cLine) (R : Rep w F ads st s.heap) (D : DenL F.B ads svs vs)
  (h : zDC C n (ev C n) f svs st k) (T : Then w F ads s k Q) :
  wpAny (model prog w) F.A (call (.ref f) vs) (fun v s' => Q (.v v) s') E s :=
 wpAny_call (zGj ih cok ok ok.stack ok.hand (by lia) (by lia) R D h T fun _ _ q => q)
theorem zLH {st : St} {x : SV} {a : Str} {k : Addr → Prop} {v : Value} {E : Value → Shared → Prop} {Q : Value × List Value → Shared → Prop} {pl : Sem Bool} (cok : CfOk w C) (ok : FmOk C F) (R : Rep w F ads st s.heap) (d : Den F.B ads x v) (h : zRq C st x a k)
  (hQ : ∀ f, k f → isFn C.K (.ref f) = true → Q (.ref f, [v]) s) : wpAny (model prog w) F.A (getMethod v a pl) Q E s := by
 obtain ⟨i, rfl, g⟩ := zBL h
 obtain ⟨c, fs, hi, g⟩ := zCx g
 obtain ⟨ce, hc, g⟩ := zAM g
 obtain ⟨f, hf, g⟩ := zAM g
 obtain ⟨hn, gk⟩ := zMg g
 obtain ⟨m, news, lw, X⟩ := R
 obtain ⟨pre, post, b, dd, es, n, h1, rfl, he, I, _⟩ := zDO X hi d
 obtain ⟨hm, rfl⟩ := zDc hc
 obtain ⟨g1, g2, g3⟩ := (cok.cls ce hm).meth a f hf
 exact method_inst X.fr ok.X I g1 g2 g3 (he.miss hn) (hQ f gk g3)
theorem zLC {st : St} {x : SV} {a : Str} {f : Addr} {v : Value} {E : Value → Shared → Prop} {Q : Value → Shared → Prop} {ex : Bool} (cok : CfOk w C) (ok : FmOk C F) (R : Rep w F ads st s.heap) (d : Den F.B ads x v) (h : zTC C st x a = some f)
  (hQ : ∀ Rr : Result → Shared → Prop, (∀ u s', handedIn u = true → Q u s' → Rr (.ok (.ret u)) s') → codeAny (model prog w) F.A.in1 (.call (.ref f) ⟨[v], []⟩) Rr { s with toks := s.toks + 1 }) : wpAny (model prog w) F.A (getAttr v a ex) Q E s := by
 cases x <;> first | exact zAU h | skip
 obtain ⟨so, hi, g⟩ := zJS h
 cases so <;> first | exact zAU g | skip
 obtain ⟨ce, hc, g⟩ := zJS g
 obtain ⟨p, hf, g⟩ := zJS g
 cases g
 obtain ⟨m, news, lw, X⟩ := R
 obtain ⟨pre, post, b, dd, es, n, h1, rfl, he, I, _⟩ := zDO X hi d
 obtain ⟨hm, rfl⟩ := zDc hc
 obtain ⟨g1, g2, g3, g4, g5, rest, g6⟩ := (cok.cls ce hm).prop a p.1 p.2 hf
 refine get_prop X.fr ok.X I g1 g2 g3 g4 g5 g6 ?_
 exact hQ _ fun u s' hu hq => by
  show wpAny (model prog w) F.A (handedOut u) Q E s'
  rw [handedOut_of hu]
  exact wpAny_pure hq
end
theorem zHx : mroOf (.type "collections.deque") = pure [.type "collections.deque", .type "object"] := by rw [mroOf_type]; kernel_rfl
theorem zER : typeLookup (.type "collections.deque") "__new__" = pure (some (.builtin "collections.deque.__new__")) := by rw [typeLookup_type, builtinLookup_eq_fast]; kernel_rfl
theorem zEt : Slot "collections.deque" "__init__" "collections.deque.__init__" :=
 .of (owner := "collections.deque") (n := "__init__") (by rw [typeLookup_type, builtinLookup_eq_fast]; kernel_rfl) (by decide +kernel) (by decide +kernel) (by decide +kernel)
  (by first | exact .inl (by decide +kernel) | exact .inr (by decide +kernel)) (by rw [isSubtype_type]; kernel_rfl)
theorem zIb : TypeCalled "collections.deque" "collections.deque.__new__" "collections.deque.__init__" :=
 ⟨by decide +kernel, by decide +kernel, ⟨_, _, zHx⟩, madeBy_type zHx zER (by decide +kernel), by decide +kernel, by rw [isSubtype_type]; kernel_rfl, zEt⟩
theorem zEO : checkTypeCall "collections.deque" ⟨[], []⟩ = pure () := by kernel_rfl
theorem zFF : checkBuiltinCall "collections.deque.__new__" ⟨[.type "collections.deque"], []⟩ = pure () := by kernel_rfl
theorem zFZ : entryFor table "collections.deque.__new__" = some Builtin.«collections.deque.__new__» := entryFor_of_tree (by kernel_rfl)
theorem zEU : entryFor table "collections.deque.__init__" = some Builtin.«collections.deque.__init__» := entryFor_of_tree (by kernel_rfl)
theorem zFk (a : Value) : argsOk "collections.deque.__init__" ⟨[a], []⟩ := by unfold argsOk; kernel_rfl
section
variable {w : World} {A : Around} {E : Value → Shared → Prop} {s : Shared}
theorem zFc : Meets (Builtin.«collections.deque.__new__» ⟨[.type "collections.deque"], []⟩) (fun _ R s => R (.ok (.ret (.ref s.heap.objs.size))) { s with heap := s.heap.push (zBd .none (rawInt 0)) }) := by
 refine Meets.of_wp fun prog w A R s hs => ?_
 have hsub : isSubtype (.type "collections.deque") (.type "collections.deque") = pure true := by rw [isSubtype_type]; kernel_rfl
 unfold Builtin.«collections.deque.__new__» Builtin.Deque.newArgs Builtin.Deque.new Builtin.Deque.ty
 repeat (any_goals (first | assumption | wp_step))
 exact ⟨_, rfl, hs⟩
theorem zEV (a : Addr) : Meets (Builtin.«collections.deque.__init__» ⟨[.ref a], []⟩) (fun _ R s => s.heap.get? a = some (zBd .none (rawInt 0)) ∧ ∀ h', h'.get? a = some (zBd .none (rawInt 0)) → Heap.SameBut a s.heap h' → R (.ok (.ret .none)) { s with heap := h' }) := by
 refine Meets.of_wp fun prog w A R s hs => ?_
 obtain ⟨ho, hq⟩ := hs
 unfold Builtin.«collections.deque.__init__»
 repeat (any_goals (first | assumption | wp_step))
 exact ⟨_, rfl, hq _ (Heap.get?_update_self _ ho rfl) (Heap.SameBut.update ..)⟩
theorem zLY {Q : Value → Shared → Prop} (h : ∀ h', h'.get? s.heap.objs.size = some (zBd .none (rawInt 0)) → Heap.SameBut s.heap.objs.size (s.heap.push (zBd .none (rawInt 0))) h' → Q (.ref s.heap.objs.size) { s with heap := h' }) :
  wpAny (model prog w) A (call (.type "collections.deque") []) Q E s := by
 refine callType_meets (Q₁ := fun v s₁ => v = .ref s.heap.objs.size ∧ s₁ = { s with heap := s.heap.push (zBd .none (rawInt 0)) }) zIb zEO zFF zFZ zEU zFc ⟨rfl, rfl⟩ ?_
 rintro obj s₁ ⟨rfl, rfl⟩
 have g : (s.heap.push (zBd .none (rawInt 0))).get? s.heap.objs.size = some (zBd .none (rawInt 0)) := Heap.get?_push_size _ rfl
 exact ⟨⟨_, g, rfl⟩, zFk _, _, zEV _, g, fun h' a b => ⟨rfl, h h' a b⟩⟩
end
theorem ltD {a n r : Nat} (h : a + (n + 1) < r) : a + n < r := Nat.lt_of_succ_lt h
theorem ltU {a n r : Nat} (h : a + 8 * (n + 1) < r) : a + 8 * n < r := by lia
theorem ltDl {a n d r : Nat} (h : a + (n + 1) < r) (l : d ≤ n) : a + d < r := by lia
theorem ltUl {a n d r : Nat} (h : a + 8 * (n + 1) < r) (l : d ≤ n) : a + 8 * d < r := by lia
section
variable {w : World} {C : Cf} {F : Fm} {ads : Wd} {s : Shared} {n : Nat} {st : St} {k : Kt} {Q : CR → Shared → Prop} {E : Value → Shared → Prop}
theorem ihV (ih : zBN w C n) (ok : FmOk C F) (hd : F.A.depth + (n + 1) < recursionLimit) (hu : F.A.units + 8 * (n + 1) < cLine) {e : Expr} {K : SV → St → Prop} {G : Value → Shared → Prop} (h : ev C n F.sc.names (.ex e) st (onV K)) (R : Rep w F ads st s.heap) (T : ThenV w F ads s K G) : wpAny (model prog w) F.A (eval e F.env) G E s := by
 refine ih F E (.ex e) st (onV K) ads s (fun c s' => match c with
  | .v u => G u s'
  | _ => False) ok (ltD hd) (ltU hu) h R ?_
 intro a st₁ m1 c s₁ h R₁ x₁ d₁
 cases a <;> first | exact h.elim | skip
 cases c <;> first | exact d₁.elim | skip
 exact T _ st₁ m1 _ s₁ h R₁ x₁ d₁
theorem ihB (ih : zBN w C n) (ok : FmOk C F) (hd : F.A.depth + (n + 1) < recursionLimit) (hu : F.A.units + 8 * (n + 1) < cLine) {e : Expr} {K : Bool → St → Prop} {G : Bool → Shared → Prop} (h : ev C n F.sc.names (.tr e) st (onB K)) (R : Rep w F ads st s.heap) (T : ∀ x st₁ m1 y s₁, K x st₁ → Rep w F (wa ads m1) st₁ s₁.heap → Nx F s s₁ → x = y → G y s₁) : wpAny (model prog w) F.A (PySem.isTrue e F.env (eval e F.env)) G E s := by
 refine ih F E (.tr e) st (onB K) ads s (fun c s' => match c with
  | .b u => G u s'
  | _ => False) ok (ltD hd) (ltU hu) h R ?_
 intro a st₁ m1 c s₁ h R₁ x₁ d₁
 cases a <;> first | exact h.elim | skip
 cases c <;> first | exact d₁.elim | skip
 exact T _ st₁ m1 _ s₁ h R₁ x₁ d₁
theorem ihVs (ih : zBN w C n) (ok : FmOk C F) (hd : F.A.depth + (n + 1) < recursionLimit) (hu : F.A.units + 8 * (n + 1) < cLine) {es : List Expr} {pos : Pos} {K : List SV → St → Prop} {G : List Value → Shared → Prop} (h : ev C n F.sc.names (.args es pos) st (onVs K)) (R : Rep w F ads st s.heap) (T : ∀ x st₁ m1 y s₁, K x st₁ → Rep w F (wa ads m1) st₁ s₁.heap → Nx F s s₁ → DenL F.B (wa ads m1) x y → G y s₁) : wpAny (model prog w) F.A (spliced (backTo pos (starEach es F.env))) G E s := by
 refine ih F E (.args es pos) st (onVs K) ads s (fun c s' => match c with
  | .vs u => G u s'
  | _ => False) ok (ltD hd) (ltU hu) h R ?_
 intro a st₁ m1 c s₁ h R₁ x₁ d₁
 cases a <;> first | exact h.elim | skip
 cases c <;> first | exact d₁.elim | skip
 exact T _ st₁ m1 _ s₁ h R₁ x₁ d₁
theorem zEh {x : Stmt} {a b : Nat} {p : Prop} (cok : CfOk w C) (ok : FmOk C F) (hd : F.A.depth + (n + 1) < recursionLimit) (hu : F.A.units + 8 * (n + 1) < cLine) (h : hkT (zBq a b C.hss) n x F.sc.names st k p) (R : Rep w F ads st s.heap) (T : Then w F ads s k Q) (no : p → Goal w F (.st x) Q E s) : Goal w F (.st x) Q E s := by
 cases hf : zBq a b C.hss with
 | none => rw [hf] at h; exact no h
 | some hk =>
  rw [hf] at h
  obtain ⟨hb, e, h⟩ := zAz h
  have l := Nat.le_of_ble_eq_true hb
  have z := cok.hss hk (zHQ hf) F E ads st s k Q ok (ltDl hd l) (ltUl hu l) h R T
  rw [e] at z
  exact z
theorem zKE {x : Expr} {a b : Nat} {p : Prop} (cok : CfOk w C) (ok : FmOk C F) (hd : F.A.depth + (n + 1) < recursionLimit) (hu : F.A.units + 8 * (n + 1) < cLine) (h : hkT (zBq a b C.hxs) n x F.sc.names st k p) (R : Rep w F ads st s.heap) (T : Then w F ads s k Q) (no : p → Goal w F (.ex x) Q E s) : Goal w F (.ex x) Q E s := by
 cases hf : zBq a b C.hxs with
 | none => rw [hf] at h; exact no h
 | some hk =>
  rw [hf] at h
  obtain ⟨hb, e, h⟩ := zAz h
  have l := Nat.le_of_ble_eq_true hb
  have z := cok.hxs hk (zHQ hf) F E ads st s k Q ok (ltDl hd l) (ltUl hu l) h R T
  rw [e] at z
  exact z
theorem zKf {x : Str} {p : Pos} (cok : CfOk w C) (ok : FmOk C F) (h : ev C (n + 1) F.sc.names (.ex (.Name x p)) st k) (R : Rep w F ads st s.heap) (T : Then w F ads s k Q) : Goal w F (.ex (.Name x p)) Q E s := by
 obtain ⟨hdb, h⟩ := zDR h
 have hdb' : (x == ("__debug__" : Str)) = false := by rw [zBm]; exact hdb
 rcases zPK h with ⟨hk, h⟩ | ⟨hk, h⟩ | ⟨hk, h⟩
 ·rw [zAW] at hk
  obtain ⟨v, hv, h⟩ := zAM h
  obtain ⟨m, news, lw, u, X, a, b⟩ := zDN R hv
  exact ldE ok X.fr hk a (T.same (r := .v v) (c := .v u) h ⟨m, news, lw, X⟩ (Nx.refl s) b) hdb'
 ·rw [zAW] at hk
  obtain ⟨v, hv, h⟩ := zAM h
  obtain ⟨m, news, lw, X⟩ := R
  obtain ⟨d, g⟩ := cok.globs x v hv
  obtain ⟨mg, mb, G1, G2, G3⟩ := ok.G.ns
  have fin : Q (.v v) s := T.same (r := .v (toSV v)) (c := .v v) h ⟨m, news, lw, X⟩ (Nx.refl s) (d F.B ads)
  rcases g with g | ⟨g, g', g''⟩
  ·exact ldG ok X.fr G1 (mg_of ok.X G1 g) fin hk hdb'
  ·exact ldB ok X.fr G1 (mg_none_of ok.X G1 g) G2 ((G3 x g'').trans g') fin hk hdb'
 ·rw [zAW] at hk
  obtain ⟨y, hi, h⟩ := zAM h
  obtain ⟨i, rfl, h⟩ := zBL h
  obtain ⟨o, hv, h⟩ := zCm h
  obtain ⟨v, rfl, h⟩ := zAM h
  exact wpAny_Name (zOw ok R hk hi hv fun u d => T.same (r := .v v) (c := .v u) h R (Nx.refl s) d) hdb'
theorem zIw {c : Const} {q : Nat} {p : Pos} (h : ev C (n + 1) F.sc.names (.ex (.Constant c q p)) st k) (R : Rep w F ads st s.heap) (T : Then w F ads s k Q) : Goal w F (.ex (.Constant c q p)) Q E s := by
 cases c <;> first | exact False.elim h | skip
 ·exact wpAny_Constant_none (T.same (r := .v .none) (c := .v .none) h R (Nx.refl s) rfl)
 ·exact wpAny_Constant_bool (T.same (r := .v (.bool _)) (c := .v (.bool _)) h R (Nx.refl s) rfl)
 ·exact wpAny_Constant_int (T.same (r := .v (.int _)) (c := .v (.int _ _)) h R (zAf s _) ⟨_, rfl⟩)
 ·conv at h => whnf
  split at h
  ·rename_i hl
   exact wpAny_Constant_str (T.same (r := .v (.str _)) (c := .v (.str _ _)) h R (zAf s _) ⟨⟨_, rfl⟩, zJu hl⟩)
  ·exact h.elim
theorem zMM {l r : Expr} {op : Operator} {p : Pos} (ih : zBN w C n) (ok : FmOk C F) (hd : F.A.depth + (n + 1) < recursionLimit) (hu : F.A.units + 8 * (n + 1) < cLine) (h : ev C (n + 1) F.sc.names (.ex (.BinOp l op r p)) st k) (R : Rep w F ads st s.heap) (T : Then w F ads s k Q) : Goal w F (.ex (.BinOp l op r p)) Q E s := by
 conv at h => whnf
 refine wpAny_BinOp (ihV ih ok hd hu h R ?_)
 intro xv st₁ m1 a s₁ h R₁ x₁ d₁
 refine ihV ih ok hd hu h R₁ ?_
 intro yv st₂ m2 b s₂ h R₂ x₂ d₂
 split at h
 ·cases op <;> first | exact False.elim h | skip
  ·exact zLa ok R₂ (Den.mono d₁) d₂ (k := fun ds => k (.v (.dat (.list ds))) st₂) h fun ds more v s' hk R' x' d => ((T.later (more := m1) x₁).later (more := m2) x₂).of (r := .v (.dat (.list ds))) (c := .v v) hk R' x' d
 ·exact zOC (Den.mono d₁) d₂ h fun z v t hk d => (T.later (more := m1) x₁).of (r := .v z) (c := .v v) hk R₂ (x₂.trans (zAf s₂ t)) d
theorem zGh {n : Nat} {op : CmpOp} {x y : SV} {a b : Value} {k : Bool → Prop} {Q : Value → Shared → Prop} (ok : FmOk C F) (hu : F.A.units + 8 * (n + 1) < cLine) (R : Rep w F ads st s.heap) (dx : Den F.B ads x a) (dy : Den F.B ads y b) (h : cmpA n st op x y k)
  (hQ : ∀ c t, k c → Q (.bool c) { s with toks := t }) : wpAny (model prog w) F.A (compareOp op a b) Q E s := by
 unfold cmpA at h
 split at h
 ·cases op <;> first | exact zIY R dx dy h hQ | skip
  ·exact zIO (ne := false) ok hu R dx dy h fun c hc => hQ c s.toks hc
  ·exact zIO (ne := true) ok hu R dx dy h fun c hc => hQ (!c) s.toks hc
 ·exact zIY R dx dy h hQ
theorem zML {l : Expr} {ops : List CmpOp} {rs : List Expr} {p : Pos} (ih : zBN w C n) (ok : FmOk C F) (hd : F.A.depth + (n + 1) < recursionLimit) (hu : F.A.units + 8 * (n + 1) < cLine) (h : ev C (n + 1) F.sc.names (.ex (.Compare l ops rs p)) st k) (R : Rep w F ads st s.heap) (T : Then w F ads s k Q) : Goal w F (.ex (.Compare l ops rs p)) Q E s := by
 obtain ⟨op, rfl, h⟩ := zBi h
 obtain ⟨r, rfl, h⟩ := zBi h
 obtain ⟨hb, h⟩ := zDR h
 refine wpAny_Compare1 (ihV ih ok hd hu h R ?_) hb
 intro xv st₁ m1 a s₁ h R₁ x₁ d₁
 refine ihV ih ok hd hu h R₁ ?_
 intro yv st₂ m2 b s₂ h R₂ x₂ d₂
 exact zGh ok hu R₂ (Den.mono d₁) d₂ h fun z t hk => (T.later (more := m1) x₁).of (r := .v (.bool z)) (c := .v (.bool z)) hk R₂ (x₂.trans (zAf s₂ t)) rfl
theorem zKj {op : BoolOp} {vs : List Expr} {p : Pos} (ih : zBN w C n) (ok : FmOk C F) (hd : F.A.depth + (n + 1) < recursionLimit) (hu : F.A.units + 8 * (n + 1) < cLine) (h : ev C (n + 1) F.sc.names (.ex (.BoolOp op vs p)) st k) (R : Rep w F ads st s.heap) (T : Then w F ads s k Q) : Goal w F (.ex (.BoolOp op vs p)) Q E s := by
 conv at h => whnf
 split at h
 ·exact BoolOp_one (ih F E (.ex _) st k ads s Q ok (ltD hd) (ltU hu) h R T)
 ·rename_i e₁ e₂ rest
  split at h
  ·refine BoolOp_and (ihV ih ok hd hu h R ?_)
   intro a st₁ m1 a s₁ h R₁ x₁ d₁
   refine zCv R₁ d₁ h fun c t hc => ?_
   have z := zBY hc
   split
   ·rename_i hct
    exact ih F E (.ex _) st₁ k (wa ads m1) _ Q ok (ltD hd) (ltU hu) (z.1 hct) R₁ (T.later (x₁.trans (zAf s₁ t)))
   ·rename_i hct
    exact T.of (z.2 (by simpa using hct)) R₁ (x₁.trans (zAf s₁ t)) d₁
  ·refine BoolOp_or (ihV ih ok hd hu h R ?_)
   intro a st₁ m1 a s₁ h R₁ x₁ d₁
   refine zCv R₁ d₁ h fun c t hc => ?_
   have z := zBY hc
   split
   ·rename_i hct
    exact T.of (z.1 hct) R₁ (x₁.trans (zAf s₁ t)) d₁
   ·rename_i hct
    exact ih F E (.ex _) st₁ k (wa ads m1) _ Q ok (ltD hd) (ltU hu) (z.2 (by simpa using hct)) R₁ (T.later (x₁.trans (zAf s₁ t)))
 ·exact h.elim
theorem zJR {o : Expr} {a : Str} {env : Env} (h : zFD o = true) : attributeBase o a env (eval o env) = eval o env := by
 cases o <;> first | rfl | cases h
theorem zKk {o : Expr} {a : Str} {p : Pos} (ih : zBN w C n) (cok : CfOk w C) (ok : FmOk C F) (hd : F.A.depth + (n + 1) < recursionLimit) (hu : F.A.units + 8 * (n + 1) < cLine) (h : ev C (n + 1) F.sc.names (.ex (.Attribute o a p)) st k) (R : Rep w F ads st s.heap) (T : Then w F ads s k Q) : Goal w F (.ex (.Attribute o a p)) Q E s := by
 conv at h => whnf
 split at h
 ·exact h.elim
 ·rename_i hb
  refine Attribute_any_ (ihV ih ok hd hu h R ?_) (by
    show (do
     let o' ← attributeBase o a F.env (eval o F.env)
     standAt p.atName
     let r ← holding [o'] (getAttr o' a true)
     letTemporaryGo o o' r
     pure r) = _
    rw [zJR hb])
  intro xv st₁ m1 u s₁ h R₁ x₁ d₁
  split at h
  ·rename_i f hf
   refine zLC cok ok R₁ d₁ hf fun Rr hR => ?_
   refine zGj (Q := fun c s' => match c with | .v u => handedIn u = true ∧ Q (.v u) s' | _ => True) ih cok ok (A := F.A.in1) (fun q => (show F.A.in1.frames = some F.stk from ok.stack q)) ok.hand (by show F.A.depth + 1 + n < _; lia) (by show F.A.units + 1 + 3 + 8 * n < _; lia) (s := { s₁ with toks := s₁.toks + 1 }) R₁ (.cons d₁ .nil) h ?_ fun v s' q => hR v s' q.1 q.2
   intro r st' more c s' hk R' x' d'
   cases c with
   | v u' =>
    cases r with
    | v y => exact ⟨Den.handed d', (T.later (more := m1) x₁).of (r := .v y) hk R' ((zAf s₁ _).trans x') d'⟩
    | _ => exact d'.elim
   | _ => exact trivial
  ·refine zGl cok ok R₁ d₁ h fun y u' t hk d' => ?_
   exact T.of (r := .v y) (c := .v u') hk R₁ (x₁.trans (zAf s₁ t)) d'
theorem zHj {e : Expr} {rest : List Expr} {env : Env} (h : zBw (e :: rest) = true) : starEach (e :: rest) env = (false, eval e env) :: starEach rest env ∧ zBw rest = true := by
 cases e <;> first | exact ⟨rfl, h⟩ | cases h
theorem zEY {env : Env} {pos : Pos} : ∀ {es : List Expr}, zBw es = true → (backTo pos (starEach es env)).any (·.1) = false ∧ (backTo pos (starEach es env)).all (fun x => !x.1) = true
 | [], _ => ⟨rfl, rfl⟩
 | e :: rest, h => by
  obtain ⟨a, b⟩ := zHj (env := env) h
  obtain ⟨c, d⟩ := zEY (env := env) (pos := pos) b
  rw [a]
  constructor
  ·show (false || (backTo pos (starEach rest env)).any (·.1)) = false
   rw [c]; rfl
  ·show (!false && (backTo pos (starEach rest env)).all (fun x => !x.1)) = true
   rw [d]; rfl
theorem zCz {f : Value} {es : List Expr} {pos : Pos} {A : Around} {M : Model} {env : Env} {Q : Args → Shared → Prop} (hs : zBw es = true) (h : wpAny M A (spliced (backTo pos (starEach es env))) (fun vs s' => Q ⟨vs, []⟩ s') E s) :
  wpAny M A (evalArgs f true (backTo pos (starEach es env)) []) Q E s := by
 cases es with
 | nil =>
  exact h
 | cons e rest =>
  obtain ⟨a, b⟩ := zHj (env := env) hs
  rw [a] at h ⊢
  exact evalArgs_plain h
theorem zKl {es : List Expr} {p : Pos} (ih : zBN w C n) (ok : FmOk C F) (hd : F.A.depth + (n + 1) < recursionLimit) (hu : F.A.units + 8 * (n + 1) < cLine) (h : ev C (n + 1) F.sc.names (.args es p) st k) (R : Rep w F ads st s.heap) (T : Then w F ads s k Q) : Goal w F (.args es p) Q E s := by
 cases es with
 | nil => exact spliced_none (T.same (r := .vs []) (c := .vs []) h R (Nx.refl s) .nil)
 | cons e rest =>
  obtain ⟨hns, h⟩ := zDR h
  refine spliced_more (ihV ih ok hd hu h R ?_) (by cases e <;> first | rfl | cases hns)
  intro xv st₁ m1 u s₁ h R₁ x₁ d₁
  refine ihVs ih ok hd hu h R₁ ?_
  intro b st₂ m2 us s₂ h R₂ x₂ d₂
  exact (T.later (more := m1) x₁).of (r := .vs _) (c := .vs _) h R₂ x₂ (.cons (Den.mono d₁) d₂)
theorem zCf {K : Frag} {f : Value} {first : List Value} {args : List Expr} {p : Pos} {A : Around} {M : Model} {env : Env} {Q : Value → Shared → Prop} (hs : zBw args = true)
  (h : wpAny M A (spliced (backTo p (starEach args env))) (fun vs s' => (K.In s'.heap ∧ keepIn K f = true) ∧ wpAny M A (call f (first ++ vs)) Q E s') E s) :
  wpAny M A (callWith p f first (backTo p (starEach args env)) []) Q E s :=
 callWith_of (P := fun h => K.In h ∧ keepIn K f = true) (by rw [(zEY (env := env) (pos := p) hs).1]; rfl) (fun h q => keeps_K q.2 h q.1)
  (zCz (Q := fun a s₁ => (K.In s₁.heap ∧ keepIn K f = true) ∧ wpAny M A (call f (first ++ a.pos) a.kw) Q E s₁) hs h)
theorem zJJ {M : Model} {f : Value} (hf : ∀ a, f ≠ .ref a) (h : Heap) : ∃ k, (k = Keeper.frame ∨ k = Keeper.machine ∨ k = Keeper.boundFrame) ∧ Looks M h (keeperOf f) k :=
 ⟨.machine, .inr (.inl rfl), Looks.of_pure (by cases f <;> first | rfl | exact absurd rfl (hf _))⟩
theorem zAY {f : Value} {first : List Value} {args : List Expr} {p : Pos} {A : Around} {M : Model} {env : Env} {Q : Value → Shared → Prop} (hf : ∀ a, f ≠ .ref a) (hs : zBw args = true)
  (h : wpAny M A (spliced (backTo p (starEach args env))) (fun vs s' => wpAny M A (call f (first ++ vs)) Q E s') E s) :
  wpAny M A (callWith p f first (backTo p (starEach args env)) []) Q E s :=
 callWith_of (P := fun _ => True) (by rw [(zEY (env := env) (pos := p) hs).1]; rfl) (fun h _ => zJJ hf h)
  (zCz (Q := fun a s₁ => True ∧ wpAny M A (call f (first ++ a.pos) a.kw) Q E s₁) hs (wpAny_mono h (fun _ _ x => ⟨trivial, x⟩) fun _ _ x => x))
theorem zGx (ok : FmOk C F) (R : Rep w F ads st s.heap) : C.K.In s.heap := let ⟨_, _, _, X⟩ := R; ok.X.keeps X.fr.keep
theorem zPq {x : SV} {a : Str} {k : String → Prop} {v : Value} {Q : Value × List Value → Shared → Prop} {pl : Sem Bool} (cok : CfOk w C) (ok : FmOk C F) (R : Rep w F ads st s.heap) (d : Den F.B ads x v) (h : bmT st x a k)
  (hQ : ∀ mid, k mid → Q (.builtin mid, [v]) s) : wpAny (model prog w) F.A (getMethod v a pl) Q E s := by
 cases x <;> first | exact False.elim h | skip
 ·obtain ⟨⟨t, rfl⟩, _⟩ := d
  conv at h => whnf
  split at h
  ·rename_i q; rw [zAQ q]; exact GM.join (hQ _ h)
  ·split at h
   ·rename_i q; rw [zAQ q]; exact GM.strip (hQ _ h)
   ·split at h
    ·rename_i q; rw [zAQ q]; exact GM.split (hQ _ h)
    ·split at h
     ·rename_i q; rw [zAQ q]; exact GM.startswith (hQ _ h)
     ·split at h
      ·rename_i q; rw [zAQ q]; exact GM.endswith (hQ _ h)
      ·exact h.elim
 ·rename_i i
  obtain ⟨xs, hi, h⟩ := zCl h
  obtain ⟨l, vs, n, rfl, ho, D, upd⟩ := zCH R hi d
  have hl : s.heap.IsList l vs.toArray := ⟨_, ho, rfl, n, rfl⟩
  split at h
  ·rename_i q; rw [zAQ q]
   exact PyProof.Rows.getMethod_list_of PySem.F.slot_list_append PySem.F.type_list_append hl ⟨_, ho, rfl⟩ (hQ _ h)
  ·split at h
   ·rename_i q; rw [zAQ q]
    exact PyProof.Rows.getMethod_list_of PySem.F.slot_list_pop PySem.F.type_list_pop hl ⟨_, ho, rfl⟩ (hQ _ h)
   ·exact h.elim
theorem zGz {B : Heap} {fz : List (Addr × Obj)} : ∀ {vs : List Value} {ts : List Str}, RdL B fz vs (ts.map .str) → ∃ l : List (Str × Tok), vs = strValues l ∧ l.map (·.1) = ts
 | vs, [], h => by cases h; exact ⟨[], rfl, rfl⟩
 | vs, t :: ts, h => by
  cases h with
  | cons a r =>
   cases a with
   | str _ u =>
    obtain ⟨l, e1, e2⟩ := zGz r
    exact ⟨(t, u) :: l, by rw [e1]; rfl, by rw [List.map_cons, e2]⟩
theorem zMG {B : Heap} {fz : List (Addr × Obj)} : ∀ (l : List (Str × Tok)), RdL B fz (strValues l) ((l.map (·.1)).map .str)
 | [] => .nil
 | (t, u) :: l => .cons (.str t u) (zMG l)
theorem zPs {mid : String} {x : SV} {u : Value} {svs : List SV} {vs : List Value} {k : SV → St → Prop} {Q : Value → Shared → Prop} (cok : CfOk w C) (ok : FmOk C F) (hu : F.A.units + 8 * (n + 1) < cLine) (R : Rep w F ads st s.heap) (d : Den F.B ads x u) (D : DenL F.B ads svs vs)
  (h : bcT mid st x svs k) (T : ThenV w F ads s k Q) : wpAny (model prog w) F.A (call (.builtin mid) ([u] ++ vs)) Q E s := by
 rcases zAa h with ⟨e, g⟩ | h0 <;> clear h
 ·subst e
  obtain ⟨sep, rfl, g1⟩ := zAh g
  obtain ⟨v, rfl, g2⟩ := zAb g1
  obtain ⟨_, rfl, dv⟩ := D.one
  obtain ⟨⟨t, rfl⟩, l⟩ := d
  obtain ⟨a, us, ds, rfl, hl, f, r, hle, ts, rfl, h1, h2, h3⟩ := zBf ok R dv g2
  obtain ⟨l', e1, e2⟩ := zGz r
  subst e1
  exact SC.join hl e2 h1 fun t' kk => T.same h3 R (zAf s kk) ⟨⟨_, rfl⟩, h2⟩
 rcases zAa h0 with ⟨e, g⟩ | h <;> clear h0
 ·subst e
  obtain ⟨y, rfl, g1⟩ := zAh g
  obtain ⟨rfl, g2⟩ := zHC g1
  cases D
  obtain ⟨⟨t, rfl⟩, l⟩ := d
  exact SCL.strip (fun t' kk hl => T.same g2 R (zAf s kk) ⟨⟨_, rfl⟩, Nat.le_trans hl l⟩) l
 rcases zAa h with ⟨e, g⟩ | h0 <;> clear h
 ·subst e
  obtain ⟨x, rfl, g1⟩ := zAh g
  obtain ⟨_, _, rfl, g2⟩ := zJt g1
  obtain ⟨y, rfl, g3⟩ := zAh g2
  obtain ⟨m, rfl, g4⟩ := zCJ g3
  obtain ⟨_, _, rfl, d1, d2⟩ := D.two
  obtain ⟨⟨t, rfl⟩, l⟩ := d
  obtain ⟨⟨t1, rfl⟩, l1⟩ := d1
  obtain ⟨t2, rfl⟩ := d2
  obtain ⟨h1, h2, h3, h4, h5⟩ := g4
  obtain ⟨mm, news, lw, X⟩ := R
  refine PyProof.Rows.splitN2A X.fr X.nw h1 h2 (fun lst h' tk e1 e2 e3 e4 F' N' => ?_) h3
  refine T _ st ⟨[], [(s.heap.objs.size, zES (strValues lst) 0)]⟩ _ _ h5 (zJB X F' N' (Nat.le_refl _)) (Nx.of_gens rfl rfl rfl) ?_
  rw [← e1]
  refine zEi (by rw [List.length_map, e1]; exact h4) (fun d hd => ?_) (zMG lst)
  obtain ⟨a, ha, rfl⟩ := List.mem_map.mp hd
  exact .str (Nat.le_trans (e3 a ha) l)
 rcases zAa h0 with ⟨e, g⟩ | h <;> clear h0
 ·subst e
  obtain ⟨x, rfl, g1⟩ := zAh g
  obtain ⟨_, rfl, g2⟩ := zAb g1
  obtain ⟨y, rfl, g3⟩ := zAh g2
  obtain ⟨_, rfl, d1⟩ := D.one
  obtain ⟨⟨t, rfl⟩, l⟩ := d
  obtain ⟨⟨t1, rfl⟩, l1⟩ := d1
  exact SC.startswith (T.same g3 R (Nx.refl s) rfl)
 rcases zAa h with ⟨e, g⟩ | h0 <;> clear h
 ·subst e
  obtain ⟨x, rfl, g1⟩ := zAh g
  obtain ⟨_, rfl, g2⟩ := zAb g1
  obtain ⟨y, rfl, g3⟩ := zAh g2
  obtain ⟨_, rfl, d1⟩ := D.one
  obtain ⟨⟨t, rfl⟩, l⟩ := d
  obtain ⟨⟨t1, rfl⟩, l1⟩ := d1
  exact SC.endswith (T.same g3 R (Nx.refl s) rfl)
 rcases zAa h0 with ⟨e, g⟩ | h <;> clear h0
 ·subst e
  obtain ⟨i, rfl, g1⟩ := zBL g
  obtain ⟨y, rfl, g2⟩ := zAb g1
  obtain ⟨_, rfl, d1⟩ := D.one
  obtain ⟨ys, hi, g2⟩ := zCl g2
  exact zEM R d hi d1 g2.1 fun h' R' => T.same g2.2 R' (Nx.of_gens rfl rfl rfl) rfl
 rcases zAa h with ⟨e, g⟩ | h0 <;> clear h
 ·subst e
  obtain ⟨i, rfl, g1⟩ := zBL g
  obtain ⟨rfl, g2⟩ := zHC g1
  cases D
  obtain ⟨xs, y, hi, hl, h⟩ := g2
  exact zMd R d hi hl fun h' v R' dv => T.same h R' (Nx.of_gens rfl rfl rfl) dv
 exact h0.elim
theorem zBa (R : Rep w F ads st s.heap) : st.led.length = ads.ads.length := let ⟨_, _, _, X⟩ := R; X.led.length
theorem zCu (ads : Wd) (a d : Addr) : (wa ads (Wd.one a d)).ads[ads.ads.length]? = some (a, d) := by rw [Wd.ads_append]; simp [Wd.one]
theorem zPr {f : Value} {svs : List SV} {vs : List Value} {k : SV → St → Prop} {Q : Value → Shared → Prop} (cok : CfOk w C) (ok : FmOk C F) (hu : F.A.units + 8 * (n + 1) < cLine) (R : Rep w F ads st s.heap) (D : DenL F.B ads svs vs)
  (h : bfT f svs st k) (T : ThenV w F ads s k Q) : wpAny (model prog w) F.A (call f ([] ++ vs)) Q E s := by
 rw [List.nil_append]
 cases f <;> first | exact False.elim h | skip
 rotate_left
 ·rcases zAa h with ⟨e, g⟩ | h0 <;> clear h
  ·subst e
   obtain ⟨x, rfl, g1⟩ := zAb g
   obtain ⟨_, rfl, d⟩ := D.one
   split at g1
   ·rename_i q
    obtain rfl := zGH q
    obtain ⟨⟨t, rfl⟩, l⟩ := d
    exact SBL.len (by rw [sizeLine_eq] at l; lia) (T.same g1 R (zAf s _) ⟨_, rfl⟩)
   ·obtain ⟨⟨b, xs⟩, hx, g1⟩ := zAM g1
    exact zNC ok R d hx g1.1 fun t t' => T.same g1.2 R (zAf s _) ⟨_, rfl⟩
  rcases zAa h0 with ⟨e, g⟩ | h <;> clear h0
  ·subst e
   obtain ⟨x, y, rfl, g1⟩ := zJt g
   obtain ⟨_, _, rfl, d, d'⟩ := D.two
   cases y <;> first | exact False.elim g1 | skip
   rename_i v
   cases v <;> first | exact False.elim g1 | skip
   obtain ⟨rfl, _⟩ := d'
   cases x <;> first | exact False.elim g1 | skip
   ·obtain ⟨⟨t, rfl⟩, l⟩ := d
    obtain ⟨rfl, g2⟩ := g1
    exact IsiPair.str_str (T.same g2 R (Nx.refl s) rfl)
   ·rename_i dd
    cases dd <;> first | exact False.elim g1 | skip
    obtain ⟨⟨a, rfl⟩, f, rd⟩ := d
    obtain ⟨rfl, g2⟩ := g1
    cases rd with
    | list g c q r => exact IsiPair.list_str (g.look (zDM ok R)) c (T.same g2 R (zAf s _) rfl)
  ·exact h.elim
 ·rcases zAa h with ⟨e, g⟩ | h0 <;> clear h
  ·subst e
   obtain ⟨x, rfl, g1⟩ := zAb g
   obtain ⟨_, rfl, d⟩ := D.one
   cases x <;> first | exact False.elim g1 | skip
   ·obtain ⟨t, rfl⟩ := d
    exact call_type_of (typeIs_int s _ _) (by decide +kernel) (T.same g1 R (Nx.refl s) ⟨rfl, rfl⟩)
   ·obtain ⟨⟨t, rfl⟩, _⟩ := d
    exact call_type_of (typeIs_str s _ _) (by decide +kernel) (T.same g1 R (Nx.refl s) ⟨rfl, rfl⟩)
  rcases zAa h0 with ⟨e, g⟩ | h <;> clear h0
  ·subst e
   obtain ⟨x, rfl, g1⟩ := zAb g
   obtain ⟨i, rfl, g2⟩ := zCJ g1
   obtain ⟨_, rfl, d⟩ := D.one
   obtain ⟨t, rfl⟩ := d
   exact call_int_int (T.same g2 R (Nx.refl s) ⟨_, rfl⟩)
  rcases zAa h with ⟨e, g⟩ | h0 <;> clear h
  ·subst e
   obtain ⟨x, rfl, g1⟩ := zAb g
   obtain ⟨i, rfl, g2⟩ := zCJ g1
   obtain ⟨_, rfl, d⟩ := D.one
   obtain ⟨t, rfl⟩ := d
   obtain ⟨h1, h2, h3⟩ := g2
   exact PyProof.Rows.str_of_int_fit (N := 4611686018427387904) (by split <;> lia) (Int.le_refl _) fun _ => T.same h3 R (zAf s _) ⟨⟨_, rfl⟩, h2⟩
  rcases zAa h0 with ⟨e, g⟩ | h <;> clear h0
  ·subst e
   obtain ⟨x, rfl, g1⟩ := zAb g
   obtain ⟨i, rfl, g2⟩ := zCJ g1
   obtain ⟨_, rfl, d⟩ := D.one
   obtain ⟨t, rfl⟩ := d
   obtain ⟨h1, h2, h3⟩ := g2
   obtain ⟨j, rfl⟩ := Int.eq_ofNat_of_zero_le h1
   refine call_range_1 ?_
   refine T (.obj st.led.length) _ (.one s.heap.objs.size 0) _ _ h3 (zBK rfl R (.rng h2)) (Nx.of_gens rfl rfl rfl) ⟨(s.heap.objs.size, 0), ?_, rfl⟩
   rw [zBa R]; exact zCu _ _ _
  rcases zAa h with ⟨e, g⟩ | h0 <;> clear h
  ·subst e
   obtain ⟨rfl, g1⟩ := zHC g
   cases D
   refine zLY fun h' e1 e2 => ?_
   have R' : Rep w F (wa ads (.one s.heap.objs.size 0)) { st with led := st.led ++ [.raw (zBd .none (rawInt 0))] } h' := by
    refine zEc (zBK (o := zBd .none (rawInt 0)) rfl R .raw) fun b o q => ?_
    by_cases z : b = s.heap.objs.size
    ·subst z
     rw [Heap.get?_push_size _ rfl] at q; cases q
     exact e1
    ·rw [e2.2 b z]; exact q
   refine T (.obj st.led.length) _ (.one s.heap.objs.size 0) _ _ g1 R' (Nx.of_gens rfl rfl rfl) ⟨(s.heap.objs.size, 0), ?_, rfl⟩
   rw [zBa R]; exact zCu _ _ _
  ·exact h0.elim
theorem zMr {o : Expr} {apos p : Pos} {env : Env} (h : (apos.endLine == p.line) = true) : methodCallPos true o env apos p = pure p := if_pos h
theorem zMt {o : Expr} {args : List Expr} {apos p : Pos} (h : mcOk o args apos p = true) : zBw args = true := by
 exact (zAO (zAO (zAO h).1).1).2
theorem zMs {o : Expr} {m : Str} {args : List Expr} {apos p : Pos} {env : Env} (hb : attributeBase o m env (eval o env) = eval o env) (b2 : zBw args = true) (b3 : Nat.ble args.length 20 = true) (b4 : (apos.endLine == p.line) = true) : eval (.Call (.Attribute o m apos) args [] p) env = (do
  let ov ← eval o env
  standAt apos.atName
  let (f, first) ← holding [ov] (getMethod ov m (do return (← importBound o env).getD true))
  callWith p f first (backTo p (starEach args env)) []) := by
 have few : methodCallForm (args.length + ([] : List Keyword).length) (backTo p (starEach args env)) (backToKw p (keywordEach [] env)) = true := by
  unfold methodCallForm
  have l := Nat.le_of_ble_eq_true b3
  have z : (backTo p (starEach args env)).all (!·.1) = true := (zEY (env := env) (pos := p) b2).2
  rw [z]
  exact decide_eq_true (show args.length + 0 + 0 < 30 by lia)
 show (do
  let ov ← attributeBase o m env (eval o env)
  standAt apos.atName
  methodCall o m apos p env ov (args.length + ([] : List Keyword).length) (backTo p (starEach args env)) (backToKw p (keywordEach [] env))) = _
 rw [hb]
 unfold methodCall
 rw [few, zMr b4]
 rfl
theorem zEg {o : Expr} {m : Str} {args : List Expr} {apos p : Pos} {env : Env} (hmc : mcOk o args apos p = true) : eval (.Call (.Attribute o m apos) args [] p) env = (do
  let ov ← eval o env
  standAt apos.atName
  let (f, first) ← holding [ov] (getMethod ov m (do return (← importBound o env).getD true))
  callWith p f first (backTo p (starEach args env)) []) :=
 let h := zAO hmc
 let h1 := zAO h.1
 let h2 := zAO h1.1
 zMs (zJR h2.1) h2.2 h1.2 h.2
theorem zKi {f : Expr} {args : List Expr} {kws : List Keyword} {p : Pos} (ih : zBN w C n) (cok : CfOk w C) (ok : FmOk C F) (hd : F.A.depth + (n + 1) < recursionLimit) (hu : F.A.units + 8 * (n + 1) < cLine) (h : ev C (n + 1) F.sc.names (.ex (.Call f args kws p)) st k) (R : Rep w F ads st s.heap) (T : Then w F ads s k Q) : Goal w F (.ex (.Call f args kws p)) Q E s := by
 refine zKE cok ok hd hu h R T ?_
 clear h
 intro h
 cases kws <;> first | exact False.elim h | skip
 ·cases f <;> first | exact False.elim h | skip
  ·rename_i o m apos
   conv at h => whnf
   split at h
   ·exact h.elim
   rename_i hmc
   have hns := zMt hmc
   refine MethodCall_ (ihV ih ok hd hu h R ?_) (zEg hmc)
   intro xv st₁ m1 u s₁ h R₁ x₁ d₁
   split at h
   ·refine zLH cok ok R₁ d₁ h fun fa h hfn => ?_
    refine zCf (K := C.K) hns (ihVs ih ok hd hu h R₁ ?_)
    intro b st₂ m2 us s₂ h R₂ x₂ d₂
    exact ⟨⟨zGx ok R₂, zGi cok h⟩, zFg ih cok ok hd hu R₂ (.cons (Den.mono d₁) d₂) h ((T.later (more := m1) x₁).later (more := m2) x₂)⟩
   ·refine zPq cok ok R₁ d₁ h fun mid h => ?_
    refine zAY (fun a e => nomatch e) hns (ihVs ih ok hd hu h R₁ ?_)
    intro b st₂ m2 us s₂ h R₂ x₂ d₂
    exact zPs cok ok hu R₂ (Den.mono d₁) d₂ h ((T.later (more := m1) x₁).later (more := m2) x₂).v
  ·rename_i x xp
   conv at h => whnf
   split at h
   ·exact h.elim
   rename_i hns
   refine Call_ (ihV ih ok hd hu h R ?_)
   intro fv st₁ m1 u s₁ h R₁ x₁ d₁
   cases fv <;> first | exact h.elim | skip
   obtain ⟨rfl, _⟩ := d₁
   cases hf : zOy u with
   | some fa =>
    obtain rfl := zKw hf
    refine zCf (K := C.K) hns (ihVs ih ok hd hu h R₁ ?_)
    intro b st₂ m2 us s₂ h R₂ x₂ d₂
    exact ⟨⟨zGx ok R₂, zGi cok h⟩, zFg ih cok ok hd hu R₂ d₂ h ((T.later (more := m1) x₁).later (more := m2) x₂)⟩
   | none =>
    refine zAY (zKx hf) hns (ihVs ih ok hd hu h R₁ ?_)
    intro b st₂ m2 us s₂ h R₂ x₂ d₂
    rw [hf] at h
    exact zPr cok ok hu R₂ d₂ h ((T.later (more := m1) x₁).later (more := m2) x₂).v
theorem zEX {e : Expr} (ih : zBN w C n) (ok : FmOk C F) (hd : F.A.depth + (n + 1) < recursionLimit) (hu : F.A.units + 8 * (n + 1) < cLine)
  (h : ev C n F.sc.names (.ex e) st (onV fun x st₁ => zDz st₁ x fun c => k (.b c) st₁)) (R : Rep w F ads st s.heap) (T : Then w F ads s k Q)
  (he : PySem.isTrue e F.env (eval e F.env) = (do let v ← eval e F.env; standAt e.pos; holding [v] (truthy v))) : Goal w F (.tr e) Q E s := by
 refine isTrue_plain (ihV ih ok hd hu h R ?_) he
 intro a st₁ m1 u s₁ h R₁ x₁ d₁
 exact zCv R₁ d₁ h fun c t hc => T.of (r := .b c) (c := .b c) hc R₁ (x₁.trans (zAf s₁ t)) rfl
theorem zOW {e : Expr} (ih : zBN w C n) (ok : FmOk C F) (hd : F.A.depth + (n + 1) < recursionLimit) (hu : F.A.units + 8 * (n + 1) < cLine) (h : ev C (n + 1) F.sc.names (.tr e) st k) (R : Rep w F ads st s.heap) (T : Then w F ads s k Q) : Goal w F (.tr e) Q E s := by
 cases e with
 | BoolOp op vs p =>
  conv at h => whnf
  split at h
  ·split at h
   ·exact isTrue_and_nil (T.same (r := .b true) (c := .b true) h R (Nx.refl s) rfl)
   ·exact isTrue_or_nil (T.same (r := .b false) (c := .b false) h R (Nx.refl s) rfl)
  ·rename_i e₁ rest
   split at h
   ·refine isTrue_and (ihB ih ok hd hu h R ?_)
    intro a st₁ m1 c' s₁ h R₁ x₁ d₁
    cases d₁
    have z := zBY h
    try dsimp only
    split
    ·rename_i hct
     exact ih F E (.tr (.BoolOp .And rest p)) st₁ k (wa ads m1) s₁ Q ok (ltD hd) (ltU hu) (z.1 hct) R₁ (T.later x₁)
    ·rename_i hct
     exact T.of (r := .b false) (c := .b false) (z.2 (by simpa using hct)) R₁ x₁ rfl
   ·refine isTrue_or (ihB ih ok hd hu h R ?_)
    intro a st₁ m1 c' s₁ h R₁ x₁ d₁
    cases d₁
    have z := zBY h
    try dsimp only
    split
    ·rename_i hct
     exact T.of (r := .b true) (c := .b true) (z.1 hct) R₁ x₁ rfl
    ·rename_i hct
     exact ih F E (.tr (.BoolOp .Or rest p)) st₁ k (wa ads m1) s₁ Q ok (ltD hd) (ltU hu) (z.2 (by simpa using hct)) R₁ (T.later x₁)
 | UnaryOp op x p =>
  cases op <;> first | exact False.elim h | skip
  refine isTrue_not (ihB ih ok hd hu h R ?_)
  intro a st₁ m1 c' s₁ h R₁ x₁ d₁
  cases d₁; exact T.of (r := .b _) (c := .b _) h R₁ x₁ rfl
 | Compare l ops rs p =>
  obtain ⟨op, rfl, h⟩ := zBi h
  obtain ⟨r, rfl, h⟩ := zBi h
  obtain ⟨hb, h⟩ := zDR h
  refine wpAny_isTrue_Compare1 (ihV ih ok hd hu h R ?_) hb
  intro xv st₁ m1 a s₁ h R₁ x₁ d₁
  refine ihV ih ok hd hu h R₁ ?_
  intro yv st₂ m2 b s₂ h R₂ x₂ d₂
  exact zGh ok hu R₂ (Den.mono d₁) d₂ h fun z t hk => wpAny_truthy_bool ((T.later (more := m1) x₁).of (r := .b z) (c := .b z) hk R₂ (x₂.trans (zAf s₂ t)) rfl)
 | Name =>
  exact zEX ih ok hd hu h R T rfl
 | Attribute =>
  exact zEX ih ok hd hu h R T rfl
 | Call =>
  exact zEX ih ok hd hu h R T rfl
 | Constant =>
  exact zEX ih ok hd hu h R T rfl
 | _ => exact False.elim h
set_option backward.match.sparseCases true
theorem zMK {l : List Stmt} (ih : zBN w C n) (ok : FmOk C F) (hd : F.A.depth + (n + 1) < recursionLimit) (hu : F.A.units + 8 * (n + 1) < cLine) (h : ev C (n + 1) F.sc.names (.sts l) st k) (R : Rep w F ads st s.heap) (T : Then w F ads s k Q) : Goal w F (.sts l) Q E s := by
 conv at h => whnf
 split at h
 ·exact wpAny_execs_nil (T.same (r := .next) (c := .fl .next) h R (Nx.refl s) trivial)
 ·rename_i x rest
  refine wpAny_execs_cons (ih F E (.st x) st _ ads s (fun c s' => match c with
   | .fl f => match f with
    | .next => wpAny (model prog w) F.A (execs rest F.env) (fun f s' => Q (.fl f) s') E s'
    | f => Q (.fl f) s'
   | _ => False) ok (ltD hd) (ltU hu) h R ?_)
  intro r st₁ m1 c s₁ h R₁ x₁ d₁
  cases r <;> (try exact h.elim) <;> cases c <;> try exact d₁.elim
  all_goals rename_i f
  ·cases f <;> try exact d₁.elim
   exact ih F E (.sts rest) st₁ k (wa ads m1) s₁ Q ok (ltD hd) (ltU hu) h R₁ (T.later x₁)
  ·cases f <;> try exact d₁.elim
   exact T.of (r := .brk) h R₁ x₁ d₁
  ·cases f <;> try exact d₁.elim
   exact T.of (r := .cont) h R₁ x₁ d₁
  ·cases f <;> try exact d₁.elim
   exact T.of (r := .ret _) h R₁ x₁ d₁
set_option backward.match.sparseCases false
theorem zCF {v : Expr} {t : Option Expr} {l : Nat} {env : Env} (h : zAy v = true) : swapsWith v t l env = pure false := by
 cases v <;> first | rfl | cases h
theorem zCa {e : Expr} {env : Env} (h : zCW e = true) (x : Value) : foldedSetIterable e env x = pure x := by
 cases e <;> first | rfl | cases h
theorem zDB {elt : Expr} {gens : List Comprehension} {sc : Scope} {p : Pos} {use : Option (Value → Sem Unit)} {k : SV → St → Prop} {Q : Value → Shared → Prop} (ih : zBN w C n) (ok : FmOk C F) (hd : F.A.depth + (n + 1) < recursionLimit) (hu : F.A.units + 8 * (n + 1) < cLine)
  (h : zNu (ev C n) F.sc.names elt gens sc st k) (R : Rep w F ads st s.heap)
  (hfin : ∀ (m1 z : Wd) (st' : St) (d : PyData) (a Cc : Addr) (s' : Shared), k (.dat d) st' → Nx F s s' → (∃ m, s'.heap.Ns Cc m) → F.L ≠ Cc → Rep w F (wa (wa ads m1) z) st' (hideAll s'.heap [Cc]) → Den F.B (wa (wa ads m1) z) (.dat d) (.ref a) →
   compPost (model prog w) F.A E use Q (.ref a) Cc (.ok .next) s') :
  wpAny (model prog w) F.A (comprehension (.ListComp elt gens sc p) sc F.env (firstIterPos gens p) (newList []) (firstAsync gens) (firstIter gens F.env) use) Q E s := by
 obtain ⟨g, rfl, h⟩ := zBi h
 obtain ⟨ha, h⟩ := zAz h
 obtain ⟨hsc, h⟩ := zAz h
 obtain ⟨hpi, h⟩ := zAz h
 obtain ⟨tgt, iter, ifs, asy⟩ := g
 obtain rfl : asy = 0 := zTR ha
 show wpAny (model prog w) F.A (comprehension (.ListComp elt [⟨tgt, iter, ifs, 0⟩] sc p) sc F.env iter.pos (newList []) false (eval iter F.env) use) Q E s
 have elok : ∀ F' : Fm, FmOk C F' → F'.A = F.A → F'.sc.names = zBE sc.names → EvOk w F' elt (fun st k => ev C n (zBE sc.names) (.ex elt) st k) := fun F' ok' eA eN E' st' k' ads' s' Q' hev R' T' =>
  ih F' E' (.ex elt) st' k' ads' s' Q' ok' (by rw [eA]; lia) (by rw [eA]; lia) (by rw [eN]; exact hev) R' T'
 refine zLU (ksrc := zSd (ev C n) elt tgt ifs sc k) ok hsc (zCa hpi) (fun Q' T' => ih F E (.ex iter) st _ ads s Q' ok (ltD hd) (ltU hu) h R T') (fun v st₁ hv => ?_) hfin
 ·unfold zSd at hv
  obtain ⟨all, slot, hs, hv⟩ := zGN hv
  rcases zLP hv with ⟨rfl, hv⟩ | ⟨c, rfl, hv⟩
  ·exact ⟨all, slot, _, none, hs, hv, fun F' ok' eA eN => ⟨elok F' ok' eA eN, .none⟩⟩
  ·refine ⟨all, slot, _, some _, hs, hv, fun F' ok' eA eN => ⟨elok F' ok' eA eN, .one fun E' st' k' ads' s' Q' hev R' T' => ?_⟩⟩
   exact ih F' E' (.tr c) st' k' ads' s' Q' ok' (by rw [eA]; lia) (by rw [eA]; lia) (by rw [eN]; exact hev) R' T'
theorem zGG {a : Expr} {b : List Comprehension} {c : Scope} {p xp : Pos} {x : Str} {l : Nat} {env : Env} : swapsWith (.ListComp a b c p) (some (.Name x xp)) l env = pure (env.blockKind == .function && env.kindOf x == some .local && xp.line == p.line && !(c.names.any fun (n, k) => n == x && (k == .local || k == .cell))) := rfl
theorem zFj {a : Expr} {b : List Comprehension} {c : Scope} {p xp pos : Pos} {x : Str} {k : SV → St → Prop} {Q : CR → Shared → Prop} (ih : zBN w C n) (ok : FmOk C F) (hd : F.A.depth + (n + 1) < recursionLimit) (hu : F.A.units + 8 * (n + 1) < cLine)
  (hk : F.sc.names.lookup x = some .local ∨ F.sc.names.lookup x = some .cell) (h : zNu (ev C n) F.sc.names a b c st fun y st₁ => stT F.sc.names x y st₁ fun st₂ => k .none st₂) (R : Rep w F ads st s.heap)
  (hQ : ∀ st' more s', k .none st' → Rep w F (wa ads more) st' s'.heap → Nx F s s' → Q (.fl .next) s') : wpAny (model prog w) F.A (exec (.Assign [.Name x xp] (.ListComp a b c p) pos) F.env) (fun f s' => Q (.fl f) s') E s := by
 cases hb : (F.env.blockKind == .function && F.env.kindOf x == some .local && xp.line == p.line && !(c.names.any fun (n, k) => n == x && (k == .local || k == .cell))) with
 | false =>
  refine wpAny_Assign_Name ?_ (by rw [zGG, hb])
  rw [eval_ListComp]
  refine zDB (use := none) ih ok hd hu h R fun m1 z st' d y Cc s' hk' x' hC hne R' dx => ?_
  obtain ⟨mC, hmC⟩ := hC
  refine ⟨mC, hmC, fun h' hs' => ?_⟩
  refine zBP (s := { s' with heap := h' }) ok (zGJ R' hs') dx hk' fun st'' s'' hk'' R'' x'' => ?_
  exact hQ st'' (wa m1 z) s'' hk'' (by rw [← Wd.append_assoc]; exact R'') ((x'.trans (Nx.of_gens rfl rfl rfl : Nx F s' { s' with heap := h' })).trans x'')
 | true =>
  have hl : F.sc.names.lookup x = some .local := by
   simp only [Bool.and_eq_true] at hb
   have := hb.1.1.2
   have h2 : F.env.kindOf x = some .local := by simpa using this
   exact h2
  rw [exec_Assign_Name_used _ _ _ _ (by rw [zGG, hb])]
  refine wpAny_bind (wpAny_standAt (wpAny_bind ?_))
  show wpAny _ F.A (do let _ ← comprehension (.ListComp a b c p) c F.env (firstIterPos b p) (newList []) (firstAsync b) (firstIter b F.env) (some (assign (.Name x xp) F.env))) _ _ s
  refine wpAny_bind (wpAny_mono (zDB (use := some (assign (.Name x xp) F.env)) (Q := fun _ s' => Q (.fl .next) s') ih ok hd hu h R fun m1 z st' d y Cc s' hk' x' hC hne R' dx => ?_) (fun _ s' hq => wpAny_pure (wpAny_pure hq)) fun _ _ e => e)
  show wpAny _ F.A (assign (.Name x xp) F.env (.ref y)) _ _ _
  unfold stT at hk'
  rw [zAW, hl] at hk'
  refine wpAny_assign_Name (zGw ok R' hC hne dx hl fun h₁ t hC₁ fin => ?_)
  obtain ⟨mC, hmC⟩ := hC₁
  refine ⟨mC, hmC, fun h'' hs'' => ?_⟩
  exact hQ _ (wa m1 z) { s' with heap := h'', toks := t } hk' (by rw [← Wd.append_assoc]; exact fin h'' hs'') (x'.trans (Nx.of_gens rfl rfl rfl))
theorem zIy {o i v : SV} {a b u : Value} {k : St → Prop} {Q : Unit → Shared → Prop} (ok : FmOk C F) (R : Rep w F ads st s.heap) (d1 : Den F.B ads o a) (d2 : Den F.B ads i b) (d3 : Den F.B ads v u) (h : zSv st o i v k)
  (hQ : ∀ st' s', k st' → Rep w F ads st' s'.heap → Nx F s s' → Q () s') : wpAny (model prog w) F.A (setItem a b u) Q E s := by
 obtain ⟨j, rfl, h⟩ := zBL h
 rcases zMi h with ⟨fs, hj, h⟩ | ⟨xs, hj, h⟩
 ·obtain ⟨x, rfl, h⟩ := zAh h
  obtain ⟨⟨t, rfl⟩, _⟩ := d2
  exact zSY R d1 hj d3 h.1 fun h' t' R' => hQ _ _ h.2 R' (Nx.mk' s h' t')
 ·obtain ⟨z, rfl, h⟩ := zCJ h
  obtain ⟨t, rfl⟩ := d2
  exact zKv R d1 hj h.1 h.2.1 h.2.2.1 d3 fun h' R' => hQ _ _ h.2.2.2 R' (Nx.of_gens rfl rfl rfl)
theorem zHe {es : List Expr} {q : Nat} {p : Pos} {v : Expr} {env : Env} (h : zHD v = true) : swappedStores [.Tuple es q p] v env = pure none := by
 cases v <;> first | rfl | cases h
theorem zIp {x z : Str} {p q : Pos} {v : Expr} {env : Env} : swappedStores [.Name x p, .Name z q] v env = pure none := rfl
theorem zKm {es : List Expr} {q : Nat} {p : Pos} {v : Expr} {l : Nat} {env : Env} (h : zAy v = true) : swapsWithSole [.Tuple es q p] v l env = pure false := by
 cases v <;> first | rfl | cases h
theorem zOX {x : Stmt} (ih : zBN w C n) (cok : CfOk w C) (ok : FmOk C F) (hd : F.A.depth + (n + 1) < recursionLimit) (hu : F.A.units + 8 * (n + 1) < cLine) (h : ev C (n + 1) F.sc.names (.st x) st k) (R : Rep w F ads st s.heap) (T : Then w F ads s k Q) : Goal w F (.st x) Q E s := by
 cases x with
 | Assign tgs v pos =>
  cases tgs with
  | nil => exact False.elim h
  | cons t0 r0 =>
  cases r0 with
  | nil =>
   cases t0 with
   | Name x xp =>
    rcases zCM h with ⟨hk, h⟩ | ⟨hk, h⟩
    ·have hk0 := hk
     rw [zAW] at hk
     split at h
     ·rename_i hp
      refine wpAny_Assign_Name (ihV ih ok hd hu h R ?_) (zCF hp)
      intro a st₁ m1 u s₁ h R₁ x₁ d₁
      exact zEx ok R₁ d₁ hk fun h' t R' => T.of (r := .next) (c := .fl .next) h R' (x₁.trans (Nx.mk' s₁ h' t)) trivial
     ·cases v <;> first | exact False.elim h | skip
      refine zFj ih ok hd hu (.inl hk) (k := fun _ st' => k .next st') ?_ R fun st' more s' hk' R' x' => T .next st' more (.fl .next) s' hk' R' x' trivial
      unfold stT
      rw [hk0]
      exact h
    ·rw [zAW] at hk
     split at h
     ·rename_i hp
      refine wpAny_Assign_Name (ihV ih ok hd hu h R ?_) (zCF hp)
      intro a st₁ m1 u s₁ h R₁ x₁ d₁
      exact zBP ok R₁ d₁ h fun st' s' hk' R' x' => T.of (r := .next) (c := .fl .next) hk' R' (x₁.trans x') trivial
     ·cases v <;> first | exact False.elim h | skip
      exact zFj ih ok hd hu (.inr hk) (k := fun _ st' => k .next st') h R fun st' more s' hk' R' x' => T .next st' more (.fl .next) s' hk' R' x' trivial
   | Tuple es q p =>
    conv at h => whnf
    split at h
    ·rename_i hp
     split at h
     ·rename_i hnt
      refine PyProof.Rows.Assign_Tuple (ihV ih ok hd hu h R ?_) (zKm hp) (zHe hnt)
      intro a st₁ m1 u s₁ h R₁ x₁ d₁
      exact zCn ok R₁ d₁ h fun st' s' hk' R' x' => T.of (r := .next) (c := .fl .next) hk' R' (x₁.trans x') trivial
     ·exact h.elim
    ·exact h.elim
   | Subscript o i ip =>
    conv at h => whnf
    split at h
    ·rename_i hp
     refine wpAny_Assign_Subscript (ihV ih ok hd hu h R ?_) (zCF hp)
     intro a st₁ m1 u s₁ h R₁ x₁ d₁
     refine ihV ih ok hd hu h R₁ ?_
     intro b st₂ m2 ov s₂ h R₂ x₂ d₂
     refine ihV ih ok hd hu h R₂ ?_
     intro b st₃ m3 iv s₃ h R₃ x₃ d₃
     exact zIy ok R₃ (Den.mono d₂) d₃ (Den.mono (Den.mono (zJa d₁))) h fun st' s' hk' R' x' => ((T.later (more := m1) x₁).later (more := m2) x₂).of (r := .next) (c := .fl .next) hk' R' (x₃.trans x') trivial
    ·exact h.elim
   | Attribute o a ap =>
    conv at h => whnf
    split at h
    ·rename_i hp
     refine plainObj_wpAny_Assign_Attribute (ihV ih ok hd hu h R ?_) (zCF hp)
     intro b st₁ m1 u s₁ h R₁ x₁ d₁
     refine ihV ih ok hd hu h R₁ ?_
     intro b st₂ m2 ov s₂ h R₂ x₂ d₂
     exact zDK cok ok R₂ d₂ (zJa (Den.mono d₁)) h fun st' h' t hk R' => (T.later (more := m1) x₁).of (r := .next) (c := .fl .next) hk R' (x₂.trans (Nx.mk' s₂ h' t)) trivial
    ·exact h.elim
   | _ => exact False.elim h
  | cons t1 r1 =>
   cases r1 with
   | cons => exact False.elim h
   | nil =>
   cases t0 with
   | Name x xp =>
    cases t1 with
    | Name z zp =>
     conv at h => whnf
     split at h
     ·rename_i hp
      split at h
      ·rename_i hnt
       refine wpAny_Assign_two (ihV ih ok hd hu h R ?_) rfl zIp
       intro a st₁ m1 u s₁ h R₁ x₁ d₁
       refine wpAny_assign_Name (zBP ok R₁ d₁ h fun st₂ s₂ h₂ R₂ x₂ => ?_)
       refine wpAny_assign_Name (zBP ok R₂ d₁ h₂ fun st₃ s₃ h₃ R₃ x₃ => ?_)
       exact T.of (r := .next) (c := .fl .next) h₃ R₃ ((x₁.trans x₂).trans x₃) trivial
      ·exact h.elim
     ·exact h.elim
    | _ => exact False.elim h
   | _ => exact False.elim h
 | AugAssign tg op v pos =>
  cases op with
  | Add =>
   cases tg with
   | Name x xp =>
    rcases zCM h with ⟨hk, h⟩ | ⟨_, h⟩
    rotate_left
    ·exact h.elim
    rw [zAW] at hk
    obtain ⟨old, ho, h⟩ := zAM h
    obtain ⟨m, news, lw, u, X, a, b⟩ := zDN R ho
    refine wpAny_AugAssign_Name (ldnE ok X.fr hk a ?_)
    refine ihV ih ok hd hu h R ?_
    intro b' st₁ m1 y s₁ h R₁ x₁ d₁
    exact zGZ (Den.mono b) d₁ h fun z v' t hk' d' => zEx (s := { s₁ with toks := t }) ok R₁ d' hk fun h' t' R' => T.of (r := .next) (c := .fl .next) hk' R' (x₁.trans (Nx.mk' s₁ h' t')) trivial
   | Attribute o a ap =>
    conv at h => whnf
    refine wpAny_AugAssign_AttributeAny (ihV ih ok hd hu h R ?_)
    intro b st₁ m1 ov s₁ h R₁ x₁ d₁
    refine zGl cok ok R₁ d₁ h fun old u t h d' => ?_
    refine ihV ih ok hd hu h R₁ ?_
    intro b st₂ m2 y s₂ h R₂ x₂ d₂
    refine zGZ (Den.mono d') d₂ h fun z v' t' hk' dz => ?_
    exact zDK (s := { s₂ with toks := t' }) cok ok R₂ (Den.mono d₁) dz hk' fun st' h' t'' hk R' => (T.later (more := m1) (x₁.trans (zAf s₁ t))).of (r := .next) (c := .fl .next) hk R' (x₂.trans (Nx.mk' s₂ h' t'')) trivial
   | _ => exact False.elim h
  | _ => exact False.elim h
 | If t b e p =>
  conv at h => whnf
  refine wpAny_If (ihB ih ok hd hu h R ?_)
  intro a st₁ m1 c' s₁ h R₁ x₁ d₁
  cases d₁
  have z := zBY h
  try dsimp only
  split
  ·rename_i hct
   exact ih F E (.sts b) st₁ k (wa ads m1) s₁ Q ok (ltD hd) (ltU hu) (z.1 hct) R₁ (T.later x₁)
  ·rename_i hct
   exact ih F E (.sts e) st₁ k (wa ads m1) s₁ Q ok (ltD hd) (ltU hu) (z.2 (by simpa using hct)) R₁ (T.later x₁)
 | Return v p =>
  refine zEh cok ok hd hu h R T ?_
  clear h
  intro h
  split at h
  ·rename_i e
   refine wpAny_Return_some (ihV ih ok hd hu h R ?_)
   intro a st₁ m1 u s₁ h R₁ x₁ d₁
   exact T.of (r := .ret _) (c := .fl (.ret u)) h R₁ x₁ d₁
  ·exact wpAny_Return_none (T.same (r := .ret .none) (c := .fl (.ret .none)) h R (Nx.refl s) rfl)
 | Break p =>
  conv at h => whnf
  exact wpAny_Break (T.same (r := .brk) (c := .fl .brk) h R (Nx.refl s) trivial)
 | Continue p =>
  conv at h => whnf
  exact wpAny_Continue (T.same (r := .cont) (c := .fl .cont) h R (Nx.refl s) trivial)
 | Pass p =>
  conv at h => whnf
  exact wpAny_Pass (T.same (r := .next) (c := .fl .next) h R (Nx.refl s) trivial)
 | For ta it bo oe p =>
  refine zEh cok ok hd hu h R T ?_
  clear h
  intro h
  cases oe <;> first | exact False.elim h | skip
  replace h : (match zCW it with
   | true => ev C n F.sc.names (.ex it) st _
   | false => False) := h
  split at h
  ·rename_i hpi
   refine wpAny_For (ihV ih ok hd hu h R ?_) (zCa hpi)
   intro r st₁ m1 u s₁ h R₁ x₁ d₁
   obtain ⟨all, slot, hs, h⟩ := zGN h
   refine zDq ok R₁ d₁ hs fun s₂ R₂ x₂ => ?_
   refine zGc (Q := Q) (k := k) ok (fun E' st' k' ads' s' Q' hev R' T' => ih F E' (.sts _) st' k' ads' s' Q' ok (ltD hd) (ltU hu) hev R' T') (fun f s' hq => hq) all 0 _ _ s₂ h rfl R₂ ?_ (((T.later (more := m1) x₁)).later x₂)
   exact ⟨(s₁.heap.objs.size, 0), by rw [zBa R₁]; exact zCu _ _ _, rfl⟩
  ·exact h.elim
 | Try ta tb tc td p =>
  exact zEh cok ok hd hu h R T fun h => h.elim
 | While wt wb we p =>
  refine zEh cok ok hd hu h R T ?_
  clear h
  intro h
  cases we <;> first | exact False.elim h | skip
  exact wpAny_While (ih F E (.wl _ _) st k ads s Q ok (ltD hd) (ltU hu) h R T)
 | Expr e p =>
  cases e <;> first | exact False.elim h | skip
  refine wpAny_Expr_any (ihV ih ok hd hu h R ?_) (by show (F.sc.kind == .module && _) = false; rw [ok.kind]; rfl) rfl
  intro a st₁ m1 u s₁ h R₁ x₁ d₁
  exact T.of (r := .next) (c := .fl .next) h R₁ x₁ trivial
 | _ => exact False.elim h
theorem zIW {t : Expr} {b : List Stmt} {env : Env} {A : Around} {R : Result → Shared → Prop}
  (turn : wpAny (model prog w) A (PySem.isTrue t env (eval t env)) (fun c s₂ =>
    if c then wpAny (model prog w) A (execs b env) (fun f s₃ => match f with
      | .next | .cont => codeAny (model prog w) A (.whileLoop t b [] env) R s₃
      | .brk => R (.ok .next) s₃
      | .ret v => R (.ok (.ret v)) s₃) (notedBy (model prog w) A env fun e s' => R (.error e) s') s₂
    else R (.ok .next) s₂)
    (notedBy (model prog w) A env fun e s' => R (.error e) s') s) : codeAny (model prog w) A (.whileLoop t b [] env) R s := by
 refine codeAny_of_tree ?_
 show wpAny _ A ((whileTurn t b [] env).onRaise (fun x => do noteFrame x env; theTreesLotGoes x)) _ _ s
 refine wpAny_noted ?_
 simp only [whileTurn]
 refine wpAny_bind (wpAny_mono turn (fun c s₂ h₂ => ?_) fun _ _ h' => h')
 cases c with
 | false =>
  simp only [Bool.false_eq_true, if_false] at h₂ ⊢
  exact wpAny_bind (wpAny_execs_nil (wpAny_pure h₂))
 | true =>
  simp only [if_true] at h₂ ⊢
  refine wpAny_bind (wpAny_mono h₂ (fun f s₃ h₃ => ?_) fun _ _ h' => h')
  cases f with
  | next => exact wpAny_pure ⟨rfl, h₃⟩
  | cont => exact wpAny_pure ⟨rfl, h₃⟩
  | brk => exact wpAny_pure h₃
  | ret v => exact wpAny_pure h₃
theorem zOV {t : Expr} {b : List Stmt} (ih : zBN w C n) (ok : FmOk C F) (hd : F.A.depth + (n + 1) < recursionLimit) (hu : F.A.units + 8 * (n + 1) < cLine) (h : ev C (n + 1) F.sc.names (.wl t b) st k) (R : Rep w F ads st s.heap) (T : Then w F ads s k Q) : Goal w F (.wl t b) Q E s := by
 conv at h => whnf
 refine zIW (ihB ih ok hd hu h R ?_)
 intro a st₁ m1 c' s₁ h R₁ x₁ d₁
 cases d₁
 have z := zBY h
 try dsimp only
 split
 ·rename_i hct
  refine ih F _ (.sts b) st₁ _ (wa ads m1) s₁ (fun c s' => match c with
   | .fl f => match f with
    | .next | .cont => codeAny (model prog w) F.A (.whileLoop t b [] F.env) _ s'
    | .brk => Q (.fl .next) s'
    | .ret v => Q (.fl (.ret v)) s'
   | _ => False) ok (ltD hd) (ltU hu) (z.1 hct) R₁ ?_
  intro r st₂ m2 c s₂ h R₂ x₂ d₂
  have T₂ := (T.later (more := m1) x₁).later (more := m2) x₂
  cases r <;> (try exact h.elim) <;> cases c <;> try exact d₂.elim
  all_goals rename_i f
  ·cases f <;> try exact d₂.elim
   exact ih F E (.wl t b) st₂ k _ s₂ Q ok (ltD hd) (ltU hu) h R₂ T₂
  ·cases f <;> try exact d₂.elim
   exact T₂.same (r := .next) (c := .fl .next) h R₂ (Nx.refl _) trivial
  ·cases f <;> try exact d₂.elim
   exact ih F E (.wl t b) st₂ k _ s₂ Q ok (ltD hd) (ltU hu) h R₂ T₂
  ·cases f <;> try exact d₂.elim
   exact T₂.same (r := .ret _) h R₂ (Nx.refl _) d₂
 ·rename_i hct
  exact T.of (r := .next) (c := .fl .next) (z.2 (by simpa using hct)) R₁ x₁ trivial
theorem zIv {t a b : Expr} {p : Pos} (ih : zBN w C n) (ok : FmOk C F) (hd : F.A.depth + (n + 1) < recursionLimit) (hu : F.A.units + 8 * (n + 1) < cLine) (h : ev C (n + 1) F.sc.names (.ex (.IfExp t a b p)) st k) (R : Rep w F ads st s.heap) (T : Then w F ads s k Q) : Goal w F (.ex (.IfExp t a b p)) Q E s := by
 conv at h => whnf
 refine wpAny_IfExp (ihB ih ok hd hu h R ?_)
 intro r st₁ m1 c' s₁ h R₁ x₁ d₁
 cases d₁
 have z := zBY h
 try dsimp only
 split
 ·rename_i hct
  exact ih F E (.ex a) st₁ k (wa ads m1) s₁ Q ok (ltD hd) (ltU hu) (z.1 hct) R₁ (T.later x₁)
 ·rename_i hct
  exact ih F E (.ex b) st₁ k (wa ads m1) s₁ Q ok (ltD hd) (ltU hu) (z.2 (by simpa using hct)) R₁ (T.later x₁)
theorem zIu {es : List Expr} {q : Nat} {p : Pos} (ih : zBN w C n) (ok : FmOk C F) (hd : F.A.depth + (n + 1) < recursionLimit) (hu : F.A.units + 8 * (n + 1) < cLine) (h : ev C (n + 1) F.sc.names (.ex (.Tuple es q p)) st k) (R : Rep w F ads st s.heap) (T : Then w F ads s k Q) : Goal w F (.ex (.Tuple es q p)) Q E s := by
 conv at h => whnf
 split at h
 ·exact h.elim
 ·refine wpAny_Tuple_spliced (ihVs ih ok hd hu h R ?_)
  intro b st₁ m1 us s₁ h R₁ x₁ d₁
  split at h
  ·rename_i hb
   have hb' := Nat.le_of_ble_eq_true hb
   refine ⟨by rw [← d₁.length, sizeLine_eq]; lia, ?_⟩
   refine (T.later (more := m1) x₁).of (more := .one s₁.heap.objs.size 0) (r := .v (.obj st₁.led.length)) (c := .v (.ref s₁.heap.objs.size)) h (zBK rfl R₁ (.tup (n := 0) d₁.mono)) (Nx.of_gens rfl rfl rfl) ?_
   exact ⟨(s₁.heap.objs.size, 0), by rw [zBa R₁]; exact zCu _ _ _, rfl⟩
  ·exact h.elim
theorem zKg {es : List Expr} {p : Pos} (ih : zBN w C n) (ok : FmOk C F) (hd : F.A.depth + (n + 1) < recursionLimit) (hu : F.A.units + 8 * (n + 1) < cLine) (h : ev C (n + 1) F.sc.names (.ex (.List es p)) st k) (R : Rep w F ads st s.heap) (T : Then w F ads s k Q) : Goal w F (.ex (.List es p)) Q E s := by
 conv at h => whnf
 split at h
 ·exact h.elim
 ·refine wpAny_List_spliced (ihVs ih ok hd hu h R ?_)
  intro b st₁ m1 us s₁ h R₁ x₁ d₁
  split at h
  ·rename_i hb
   have hb' := Nat.le_of_ble_eq_true hb
   refine ⟨by rw [← d₁.length, sizeLine_eq]; lia, ?_⟩
   refine (T.later (more := m1) x₁).of (more := .one s₁.heap.objs.size 0) (r := .v (.obj st₁.led.length)) (c := .v (.ref s₁.heap.objs.size)) h (zBK rfl R₁ (.list (n := 0) d₁.mono)) (Nx.of_gens rfl rfl rfl) ?_
   exact ⟨(s₁.heap.objs.size, 0), by rw [zBa R₁]; exact zCu _ _ _, rfl⟩
  ·exact h.elim
theorem zOY {a : Expr} {b : List Comprehension} {c : Scope} {p : Pos} (ih : zBN w C n) (cok : CfOk w C) (ok : FmOk C F) (hd : F.A.depth + (n + 1) < recursionLimit) (hu : F.A.units + 8 * (n + 1) < cLine) (h : ev C (n + 1) F.sc.names (.ex (.ListComp a b c p)) st k) (R : Rep w F ads st s.heap) (T : Then w F ads s k Q) : Goal w F (.ex (.ListComp a b c p)) Q E s := by
 refine zKE cok ok hd hu h R T ?_
 clear h
 intro h
 show wpAny (model prog w) F.A (eval (.ListComp a b c p) F.env) (fun v s' => Q (.v v) s') E s
 rw [eval_ListComp]
 refine zDB (use := none) ih ok hd hu h R fun m1 z st' d x Cc s' hk x' hC hne R' dx => ?_
 obtain ⟨mC, hmC⟩ := hC
 refine ⟨mC, hmC, fun h' hs' => ?_⟩
 refine T (.v (.dat d)) st' (wa m1 z) (.v (.ref x)) _ hk ?_ (x'.trans (Nx.of_gens rfl rfl rfl)) ?_
 ·rw [← Wd.append_assoc]; exact zGJ R' hs'
 ·rw [← Wd.append_assoc]; exact dx
theorem zKh {ks : List (Option Expr)} {vs : List Expr} {p : Pos} (h : ev C (n + 1) F.sc.names (.ex (.Dict ks vs p)) st k) (R : Rep w F ads st s.heap) (T : Then w F ads s k Q) : Goal w F (.ex (.Dict ks vs p)) Q E s := by
 cases ks <;> first | exact False.elim h | skip
 cases vs <;> first | exact False.elim h | skip
 exact zSZ R fun s' R' x' => T (.v (.obj st.led.length)) _ (.one s.heap.objs.size 0) (.v (.ref s.heap.objs.size)) s' h R' x' ⟨(s.heap.objs.size, 0), by rw [zBa R]; exact zCu _ _ _, rfl⟩
theorem zEo {o : Expr} {x : Str} {t : Tok} (r : Value) : letTemporaryGo o (.str x t) r = pure () := by cases o <;> rfl
theorem zOi {o : Expr} {lo hi : Option Expr} {q : Pos} {x : SV} {v vl vu : Value} {l u : Option Int} {k : SV → St → Prop} {Q : Value → Shared → Prop} (ok : FmOk C F) (R : Rep w F ads st s.heap) (d : Den F.B ads x v) (pl : PartV l vl) (pu : PartV u vu)
  (h : slT st x l u k) (T : ThenV w F ads s k Q) :
  wpAny (model prog w) F.A (subscriptTail o (.Slice lo hi none q) v (.ref s.heap.objs.size)) Q E { s with heap := s.heap.push { cls := .type "slice", data := .fields #[vl, vu, .none] } } := by
 cases x <;> try exact h.elim
 rotate_left
 ·rename_i dd
  cases dd <;> try exact h.elim
  rename_i ds
  exact zMN ok R d pl pu fun more r s' R' x' d' => T _ st more r s' h R' x' d'
 rename_i x
 obtain ⟨⟨t, rfl⟩, hl⟩ := d
 obtain ⟨m, news, lw, X⟩ := R
 have fin : ∀ z h' t' kk, z = Txt.slice x l u → Fr F.h₀ F.L h' m → News F.h₀ F.L h' (news ++ (ads.fz ++ lw)) → z.length ≤ x.length → Q (.str z t') { s with heap := h', toks := kk } := by
  intro z h' t' kk e F' N' hz
  subst e
  exact T.same h ⟨m, news, lw, F', N', X.loc, X.led, X.nd, X.ups⟩ (Nx.mk' s h' kk) ⟨⟨_, rfl⟩, Nat.le_trans hz hl⟩
 cases l <;> cases u
 ·cases pl; cases pu
  exact slice_strN_nn_len X.fr X.nw (fun h' t' kk F' N' hz => fin _ h' t' kk rfl F' N' hz) (by with_unfolding_all rfl) zEo hl
 ·cases pl; obtain ⟨_, rfl⟩ := pu
  exact slice_strN_ns_len X.fr X.nw (fun h' t' kk F' N' hz => fin _ h' t' kk rfl F' N' hz) (by with_unfolding_all rfl) zEo hl
 ·obtain ⟨_, rfl⟩ := pl; cases pu
  exact slice_strN_sn_len X.fr X.nw (fun h' t' kk F' N' hz => fin _ h' t' kk rfl F' N' hz) (by with_unfolding_all rfl) zEo hl
 ·obtain ⟨_, rfl⟩ := pl; obtain ⟨_, rfl⟩ := pu
  exact slice_strN_ss_len X.fr X.nw (fun h' t' kk F' N' hz => fin _ h' t' kk rfl F' N' hz) (by with_unfolding_all rfl) zEo hl
theorem zGM {e : Option Expr} {k : Option Int → St → Prop} {Q : Value → Shared → Prop} (ih : zBN w C n) (ok : FmOk C F) (hd : F.A.depth + (n + 1) < recursionLimit) (hu : F.A.units + 8 * (n + 1) < cLine) (h : zRk C n F.sc.names e st (ev C n) k) (R : Rep w F ads st s.heap)
  (hQ : ∀ l st' more v s', k l st' → Rep w F (wa ads more) st' s'.heap → Nx F s s' → PartV l v → Q v s') : wpAny (model prog w) F.A (evalPart e F.env) Q E s := by
 cases e with
 | none => exact wpAny_evalPart_none (hQ none st .nil .none s h (by rw [Wd.append_nil]; exact R) (Nx.refl s) rfl)
 | some e =>
  have h : ev C n F.sc.names (.ex e) st (onV _) := h
  refine wpAny_evalPart_some (ihV ih ok hd hu h R ?_)
  intro r st₁ m1 v s₁ h R₁ x₁ d₁
  cases r <;> first | exact h.elim | skip
  exact hQ _ st₁ m1 v s₁ h R₁ x₁ d₁
theorem zMF {o i : Expr} {x y : SV} {v u : Value} {k : SV → Prop} {Q : Value → Shared → Prop} (hp : zJr i = true) (ok : FmOk C F) (R : Rep w F ads st s.heap) (d : Den F.B ads x v) (d' : Den F.B ads y u) (h : subT st x y k)
  (hQ : ∀ z v t, k z → Den F.B ads z v → Q v { s with toks := t }) : wpAny (model prog w) F.A (subscriptTail o i v u) Q E s := by
 cases y <;> first | exact False.elim h | skip
 obtain ⟨t', rfl⟩ := d'
 conv at h => whnf
 split at h
 ·rename_i x hx
  obtain rfl := zGH hx
  obtain ⟨⟨t, rfl⟩, hl⟩ := d
  obtain ⟨h1, h2, h3⟩ := h
  rw [sizeLine_eq] at hl
  exact item_str (fitsSsize_of (N := 9223372036854775808) (by lia) (by lia) (Int.le_refl _)) h1 h2 (fun hz => hQ _ _ _ h3 ⟨⟨_, rfl⟩, Nat.le_trans hz.2 (by rw [sizeLine_eq]; lia)⟩) (by cases i <;> first | rfl | cases hp) zEo
 ·obtain ⟨⟨b, xs⟩, e, h⟩ := zAM h
  obtain ⟨z, hz, hk⟩ := h
  exact zNS (fun l => by cases i <;> first | rfl | cases hp) ok R d e hz fun y dy => hQ z y s.toks hk dy
theorem zMJ {o i : Expr} {p : Pos} (ih : zBN w C n) (ok : FmOk C F) (hd : F.A.depth + (n + 1) < recursionLimit) (hu : F.A.units + 8 * (n + 1) < cLine) (h : ev C (n + 1) F.sc.names (.ex (.Subscript o i p)) st k) (R : Rep w F ads st s.heap) (T : Then w F ads s k Q) : Goal w F (.ex (.Subscript o i p)) Q E s := by
 conv at h => whnf
 split at h
 ·rename_i hp
  refine Subscript_ (ihV ih ok hd hu h R ?_)
  intro a st₁ m1 ov s₁ h R₁ x₁ d₁
  refine ihV ih ok hd hu h R₁ ?_
  intro b st₂ m2 iv s₂ h R₂ x₂ d₂
  exact zMF hp ok R₂ (Den.mono d₁) d₂ h fun z v t hk d => (T.later (more := m1) x₁).of (r := .v z) (c := .v v) hk R₂ (x₂.trans (zAf s₂ t)) d
 ·cases i <;> first | exact False.elim h | skip
  rename_i lo hi stp q _
  cases stp <;> first | exact False.elim h | skip
  refine Subscript_ (ihV ih ok hd hu h R ?_)
  intro a st₁ m1 ov s₁ h R₁ x₁ d₁
  refine wpAny_Slice (zGM ih ok hd hu h R₁ ?_)
  intro l st₂ m2 vl s₂ h R₂ x₂ p₂
  refine zGM ih ok hd hu h R₂ ?_
  intro uu st₃ m3 vu s₃ h R₃ x₃ p₃
  refine wpAny_evalPart_none ?_
  exact zOi ok R₃ (Den.mono (Den.mono d₁)) p₂ p₃ h (((T.later (more := m1) x₁).later (more := m2) x₂).later (more := m3) x₃).v
theorem zIt {op : UnaryOp} {x : Expr} {p : Pos} (ih : zBN w C n) (ok : FmOk C F) (hd : F.A.depth + (n + 1) < recursionLimit) (hu : F.A.units + 8 * (n + 1) < cLine) (h : ev C (n + 1) F.sc.names (.ex (.UnaryOp op x p)) st k) (R : Rep w F ads st s.heap) (T : Then w F ads s k Q) : Goal w F (.ex (.UnaryOp op x p)) Q E s := by
 cases op <;> first | exact False.elim h | skip
 refine wpAny_UnaryOp (ihV ih ok hd hu h R ?_)
 intro r st₁ m1 u s₁ h R₁ x₁ d₁
 cases r <;> first | exact h.elim | skip
 obtain ⟨t, rfl⟩ := d₁
 exact PyProof.Rows.neg_int ((T.later (more := m1) x₁).same (r := .v (.int _)) (c := .v (.int _ _)) h R₁ (zAf s₁ _) ⟨_, rfl⟩)
theorem zBs (cok : CfOk w C) : ∀ n, zBN w C n
 | 0 => fun F E tk st k ads s Q ok hd hu h R T => False.elim h
 | n + 1 => fun F E tk st k ads s Q ok hd hu h R T => by
  have ih := zBs cok n
  cases tk with
  | ex e =>
   cases e with
   | Name x p => exact zKf cok ok h R T
   | Constant c q p => exact zIw h R T
   | Attribute o a p => exact zKk ih cok ok hd hu h R T
   | BinOp l op r p => exact zMM ih ok hd hu h R T
   | Compare l ops rs p => exact zML ih ok hd hu h R T
   | BoolOp op vs p => exact zKj ih ok hd hu h R T
   | Call f args kws p => exact zKi ih cok ok hd hu h R T
   | IfExp t a b p => exact zIv ih ok hd hu h R T
   | UnaryOp op x p => exact zIt ih ok hd hu h R T
   | Tuple es q p => exact zIu ih ok hd hu h R T
   | List es p => exact zKg ih ok hd hu h R T
   | ListComp a b c p => exact zOY ih cok ok hd hu h R T
   | Dict a b p => exact zKh h R T
   | Subscript o i p => exact zMJ ih ok hd hu h R T
   | _ => exact False.elim h
  | tr e => exact zOW ih ok hd hu h R T
  | st x => exact zOX ih cok ok hd hu h R T
  | sts l => exact zMK ih ok hd hu h R T
  | args es p => exact zKl ih ok hd hu h R T
  | wl t b => exact zOV ih ok hd hu h R T
end
noncomputable def zMo : List (Str × NameKind) → Bool
 | [] => true
 | (_, k) :: r => match k with
  | .cell => false
  | _ => zMo r
theorem zAR : ∀ {l : List (Str × NameKind)}, zMo l = true → ∀ x ∈ l, x.2 ≠ .cell
 | (y, k) :: r, h, x, hx => by
  have rest : zMo r = true → x ∈ r → x.2 ≠ .cell := fun h hx => zAR h x hx
  cases k <;> first | exact Bool.noConfusion h | (rcases List.mem_cons.mp hx with rfl | hx <;> first | exact rest h hx | exact nofun)
noncomputable def zUH (ns : List (Str × NameKind)) : List Str → Bool
 | [] => true
 | x :: r => kLoc (zAd x ns) && zUH ns r
noncomputable def ndB : List Str → Bool
 | [] => true
 | x :: r => match zBl x r with
  | true => false
  | false => ndB r
theorem zDb {x : Str} : ∀ {l : List Str}, zBl x l = false → x ∉ l
 | [], _, h => nomatch h
 | y :: r, h, hx => by
  unfold zBl at h
  split at h
  ·cases h
  ·rename_i q
   rcases List.mem_cons.mp hx with rfl | hx
   ·exact zAo q rfl
   ·exact zDb h hx
theorem zBp {x : Str} : ∀ {l : List Str}, zBl x l = true → x ∈ l
 | [], h => by cases h
 | y :: r, h => by
  unfold zBl at h
  split at h
  ·rename_i q; rw [zAQ q]; exact .head _
  ·exact .tail _ (zBp h)
theorem zFG : ∀ {l : List Str}, ndB l = true → l.Nodup
 | [], _ => List.nodup_nil
 | x :: r, h => by
  unfold ndB at h
  split at h
  ·cases h
  ·rename_i q; exact List.nodup_cons.mpr ⟨zDb q, zFG h⟩
noncomputable def zKN (v : Value) : Bool := match v with
 | .none => true
 | .bool _ => true
 | .int _ _ => true
 | .str s _ => zRo s
 | .type _ => true
 | .builtin n => handedIn (.builtin n)
 | .ref _ => true
 | _ => false
theorem zGf {v : Value} (h : zKN v = true) (B : Heap) (W : Wd) : Den B W (toSV v) v := by
 cases v <;> first | exact Bool.noConfusion h | skip
 ·rfl
 ·rfl
 ·exact ⟨_, rfl⟩
 ·exact ⟨⟨_, rfl⟩, zJu h⟩
 ·exact ⟨rfl, rfl⟩
 ·exact ⟨rfl, h⟩
 ·exact ⟨rfl, rfl⟩
noncomputable def zEk : List (Str × Value) → Bool
 | [] => true
 | (_, v) :: r => zKN v && zEk r
theorem zFw : ∀ {l : List (Str × Value)}, zEk l = true → ∀ x ∈ l, zKN x.2 = true := by
 intro l
 induction l with
 | nil => intro _ x hx; cases hx
 | cons p r ih =>
  intro h x hx
  obtain ⟨q, h⟩ := zAO h
  rcases List.mem_cons.mp hx with rfl | hx
  ·exact q
  ·exact ih h x hx
noncomputable def zID (k : ScopeKind) : Bool := match k with
 | .function => true
 | _ => false
theorem zMm {b : Bool} (h : (!b) = true) : b = false := by cases b <;> first | rfl | exact Bool.noConfusion h
theorem zDY {k : ScopeKind} (h : zID k = true) : k = .function := by cases k <;> first | rfl | exact Bool.noConfusion h
noncomputable def zPt (ns : List (Str × NameKind)) (cs : List Str) : List Str → Bool
 | [] => true
 | x :: r => (kLoc (zAd x ns) || (kCel (zAd x ns) && zBl x cs)) && zPt ns cs r
theorem zDD {ns : List (Str × NameKind)} {cs : List Str} : ∀ {l : List Str}, zPt ns cs l = true → ∀ x ∈ l, ns.lookup x = some .local ∨ (ns.lookup x = some .cell ∧ x ∈ cs)
 | y :: r, h, x, hx => by
  obtain ⟨hk, h⟩ := zAO h
  rcases List.mem_cons.mp hx with rfl | hx
  ·rcases (Bool.or_eq_true ..).mp hk with hk | hk
   ·exact .inl (zFM hk)
   ·exact .inr ⟨zJK (zAO hk).1, zBp (zAO hk).2⟩
  ·exact zDD h x hx
noncomputable def zJi : List Str → List Str → Bool
 | [], l => l.isEmpty
 | x :: xs, l => match l with
  | [] => false
  | y :: ys => Fast.sEq x y && zJi xs ys
theorem zHh : ∀ {xs ys : List Str}, zJi xs ys = true → xs = ys := by
 intro xs
 induction xs with
 | nil => intro ys h; cases ys <;> first | rfl | exact Bool.noConfusion h
 | cons x xs ih =>
  intro ys h
  cases ys with
  | nil => exact Bool.noConfusion h
  | cons y ys =>
   obtain ⟨q, h⟩ := zAO h
   rw [zAQ q, ih h]
noncomputable def zHU (ns : List (Str × NameKind)) : List Str → Bool
 | [] => true
 | x :: r => kCel (zAd x ns) && zHU ns r
theorem zCP {ns : List (Str × NameKind)} : ∀ {l : List Str}, zHU ns l = true → ∀ x ∈ l, ns.lookup x = some .cell
 | y :: r, h, x, hx => by
  obtain ⟨hk, h⟩ := zAO h
  rcases List.mem_cons.mp hx with rfl | hx
  ·exact zJK hk
  ·exact zCP h x hx
noncomputable def zTs (e : FnE) : Bool := zHU e.scope.names e.cells && (zJi ((cellsFrom 0 e.scope.names []).map (·.1)) e.cells && (zPt e.scope.names e.cells (e.names ++ e.more.map (·.1)) && (ndB (e.names ++ e.more.map (·.1)) && (Nat.beq e.names.length e.na && (!e.scope.isCoroutine && (!e.scope.isGenerator && (zID e.scope.kind && zEk e.more)))))))
theorem zFU {e : FnE} (h : zTs e = true) : zHU e.scope.names e.cells = true ∧ zJi ((cellsFrom 0 e.scope.names []).map (·.1)) e.cells = true ∧ zPt e.scope.names e.cells (e.names ++ e.more.map (·.1)) = true ∧ ndB (e.names ++ e.more.map (·.1)) = true ∧ Nat.beq e.names.length e.na = true ∧ e.scope.isCoroutine = false ∧ e.scope.isGenerator = false ∧ zID e.scope.kind = true ∧ zEk e.more = true :=
 (zAO h).imp_right fun h => (zAO h).imp_right fun h => (zAO h).imp_right fun h => (zAO h).imp_right fun h => (zAO h).imp_right fun h => (zAO h).imp zMm fun h => (zAO h).imp zMm fun h => zAO h
theorem len1 {vs : List Value} (h : vs.length = 1) : ∃ a, vs = [a] := List.length_eq_one_iff.mp h
theorem lenS {vs : List Value} {n : Nat} (h : vs.length = n + 1) : ∃ a r, vs = a :: r ∧ r.length = n := by
 cases vs with
 | nil => cases h
 | cons a r => exact ⟨a, r, rfl, Nat.succ.inj h⟩
theorem len2 {vs : List Value} (h : vs.length = 2) : ∃ a b, vs = [a, b] := let ⟨a, _, e, h⟩ := lenS h; let ⟨b, q⟩ := len1 h; ⟨a, b, q ▸ e⟩
theorem len5 {vs : List Value} (h : vs.length = 5) : ∃ a b c d e, vs = [a, b, c, d, e] :=
 let ⟨a, _, e, h⟩ := lenS h; let ⟨b, _, e2, h⟩ := lenS h; let ⟨c, _, e3, h⟩ := lenS h; let ⟨x, y, q⟩ := len2 h; ⟨a, b, c, x, y, by rw [e, e2, e3, q]⟩
theorem FnOk.of {K : Frag} {e : FnE} (h : zTs e = true) (hc : codeIn K e.cd e.qual = true) (at_ : ∃ oc od osl fd, K.lookup e.fa = some (⟨oc, od, .func fd, osl⟩ : Obj) ∧ fd.body = .stmts e.body ∧ fd.scope = e.scope ∧ (∀ L a, callEnv fd L a = envOf e.qual e.scope L a e.cd) ∧ fd.code = e.cd ∧ fd.qualname = e.qual ∧
  ∀ (s : Shared) (vs : List Value), K.In s.heap → vs.length = e.na → BindsTo s fd ⟨vs, []⟩ (zipV e.names vs ++ e.more)) : FnOk K e := by
 obtain ⟨h0, h1, h2, h3, h4, h5, h6, h7, h8⟩ := zFU h
 refine ⟨at_, zCP h0, hc, fun n => (cellsFrom_names e.scope.names n 0 [] [] rfl).trans (zHh h1), zDD h2, zFG h3, Nat.eq_of_beq_eq_true h4, h5, h6, ?_, fun x hx B W => zGf (zFw h8 x hx) B W⟩
 exact zDY h7
noncomputable def isNN (x : Option (Option Value)) : Bool := match x with
 | none => false
 | some y => match y with
  | none => true
  | some _ => false
theorem zNN {x : Option (Option Value)} (h : isNN x = true) : x = some none := by
 cases x with
 | none => exact Bool.noConfusion h
 | some y => cases y <;> first | rfl | exact Bool.noConfusion h
noncomputable abbrev zSH (p : Value → Bool) (x : Option (Option Value)) : Bool := match x with
 | none => false
 | some y => match y with
  | none => false
  | some v => p v
theorem zGW {p : Value → Bool} {x : Option (Option Value)} (h : zSH p x = true) : ∃ v, x = some (some v) ∧ p v = true := by
 cases x with
 | none => exact Bool.noConfusion h
 | some y => cases y <;> first | exact ⟨_, rfl, h⟩ | exact Bool.noConfusion h
noncomputable def zNM (f : Addr) (x : Option (Option Value)) : Bool := zSH (fun v => match v with
 | .ref a => Nat.beq a f
 | _ => false) x
theorem zIE {f : Addr} {x : Option (Option Value)} (h : zNM f x = true) : x = some (some (.ref f)) := by
 obtain ⟨v, rfl, h⟩ := zGW h
 cases v <;> first | exact Bool.noConfusion h | rw [Nat.eq_of_beq_eq_true h]
noncomputable def isBi (n : String) (x : Option (Option Value)) : Bool := zSH (fun v => match v with
 | .builtin a => a == n
 | _ => false) x
theorem zNQ {n : String} {x : Option (Option Value)} (h : isBi n x = true) : x = some (some (.builtin n)) := by
 obtain ⟨v, rfl, h⟩ := zGW h
 cases v <;> first | exact Bool.noConfusion h | rw [eq_of_beq h]
noncomputable def isT (x : Option Bool) : Bool := match x with
 | none => false
 | some b => b
theorem zTS {x : Option Bool} (h : isT x = true) : x = some true := by
 cases x with
 | none => exact Bool.noConfusion h
 | some b => exact congrArg some h
noncomputable def all' {α : Type} (p : α → Bool) : List α → Bool
 | [] => true
 | x :: r => p x && all' p r
theorem zCC {α : Type} {p : α → Bool} : ∀ {l : List α}, all' p l = true → ∀ x ∈ l, p x = true
 | y :: r, h, x, hx => by
  obtain ⟨q, h⟩ := zAO h
  rcases List.mem_cons.mp hx with rfl | hx
  ·exact q
  ·exact zCC h x hx
noncomputable def zHJ (K : Frag) (p f : Addr) : Bool := match recIn K p "property" with
 | none => false
 | some l => match l with
  | [] => false
  | v :: _ => match v with
   | .ref a => Nat.beq a f
   | _ => false
theorem zJM {K : Frag} {p f : Addr} (h : zHJ K p f = true) : ∃ rest, recIn K p "property" = some (.ref f :: rest) := by
 unfold zHJ at h
 cases q : recIn K p "property" with
 | none => rw [q] at h; exact Bool.noConfusion h
 | some l =>
  rw [q] at h
  cases l with
  | nil => exact Bool.noConfusion h
  | cons v r => cases v <;> first | exact Bool.noConfusion h | (rw [Nat.eq_of_beq_eq_true h]; exact ⟨r, rfl⟩)
noncomputable def zNy (K : Frag) (C : Addr) : Bool := plainGet K C (Str.ofString "") && (hasDictIn K C && (isBi "object.__setattr__" (findIn K (.ref C) "__setattr__") && plainOver K C))
noncomputable def zQW (K : Frag) (c : ClsE) : Bool := zNy K c.C && (all' (fun a => isNN (findIn K (.ref c.C) a) && isNN (takerIn K c.C a)) c.attrs &&
  (all' (fun p => zNM p.2 (findIn K (.ref c.C) p.1) && isFn K (.ref p.2)) c.meths &&
   all' (fun p => zNM p.2.1 (findIn K (.ref c.C) p.1) && (isBi "property.__get__" (specialIn K (.ref p.2.1) "__get__") && (isT (takesIn K (.ref p.2.1)) && zHJ K p.2.1 p.2.2))) c.props))
theorem ClsOk.of {K : Frag} {c : ClsE} (h : zQW K c = true) : ClsOk K c := by
 unfold zQW zNy at h
 obtain ⟨b0, h⟩ := zAO h
 obtain ⟨b1, b0⟩ := zAO b0
 obtain ⟨b2, b0⟩ := zAO b0
 obtain ⟨b3, b4⟩ := zAO b0
 obtain ⟨h1, h⟩ := zAO h
 obtain ⟨h2, h3⟩ := zAO h
 refine ⟨fun a ha => ?_, fun a ha => ?_, fun a f hf => ?_, fun a p f hf => ?_⟩
 ·exact ⟨b1, b2, zNN (zAO (zCC h1 a (zBp ha))).1⟩
 ·exact ⟨zNQ b3, b4, zNN (zAO (zCC h1 a (zBp ha))).2⟩
 ·have z := zAO (zCC h2 _ (zCs hf))
  exact ⟨b1, zIE z.1, z.2⟩
 ·have z := zAO (zCC h3 _ (zCs hf))
  have y := zAO z.2
  exact ⟨b1, b2, zIE z.1, zNQ y.1, zTS (zAO y.2).1, zJM (zAO y.2).2⟩
noncomputable def zDh (K : Frag) (p : Str × Value) : Prop := zKN p.2 = true ∧ (nsIn K mainGlobals p.1 = some (some p.2) ∨ (nsIn K mainGlobals p.1 = some none ∧ bootBuiltins p.1 = some p.2 ∧ Fast.sEq p.1 "__name__" = false))
theorem zAn {K : Frag} {g : List (Str × Value)} (h : ∀ p ∈ g, zDh K p) : ∀ x v, lk x g = some v → (∀ B ads, Den B ads (toSV v) v) ∧ (nsIn K mainGlobals x = some (some v) ∨ (nsIn K mainGlobals x = some none ∧ bootBuiltins x = some v ∧ x ≠ "__name__")) := fun x v e => by
 obtain ⟨a, b⟩ := h _ (zCs e)
 refine ⟨fun B W => zGf a B W, ?_⟩
 rcases b with b | ⟨b, c, d⟩
 ·exact .inl b
 ·exact .inr ⟨b, c, zAo d⟩
theorem zAX {C C' : Cf} {F : Fm} (e : C'.K = C.K) (ok : FmOk C F) (hk : C'.known = true → C.known = true) : FmOk C' F := ⟨e ▸ ok.X, ok.G, ok.stay, ok.kind, ok.hand, fun q => ok.stack (hk q), fun q => ok.loud (hk q), ok.low, ok.loc, ok.gl, ok.bi, ok.cel, ok.cel2⟩
theorem zAD {α : Type} {p : α → Prop} : ∀ x ∈ ([] : List α), p x := fun _ h => by cases h
theorem zAA {α : Type} {p : α → Prop} {a : α} {l : List α} (h : p a) (r : ∀ x ∈ l, p x) : ∀ x ∈ a :: l, p x := fun x hx => by
 rcases List.mem_cons.mp hx with rfl | hx
 ·exact h
 ·exact r x hx
noncomputable def forG (bnd : SV → St → (St → Prop) → Prop) (body : St → Kt → Prop) (v : SV) (all : List SV) (slot : Nat → SO) (p b : Nat) : Nat → List SV → St → Kt → Prop
 | j, [], st, k => st.led[p]? = some (slot j) ∧ srcT st v = some (all, slot) ∧ k .next { st with led := st.led.set p .gone }
 | j, x :: xs, st, k => st.led[p]? = some (slot j) ∧ srcT st v = some (all, slot) ∧ bnd x { st with led := st.led.set p (slot (j + 1)) } fun st₁ => body st₁ fun r st₂ => match r with
  | .next => ∃ n st₃, b ≤ n ∧ n ≤ st₂.led.length ∧ Trim n st₂ st₃ ∧ forG bnd body v all slot p b (j + 1) xs st₃ k
  | .ret y => k (.ret y) st₂
  | _ => False
section
variable {w : World} {C : Cf} {F : Fm} {ads : Wd} {s : Shared} {st : St} {A : Around} {E : Value → Shared → Prop}
theorem zOK (ads m : Wd) (n : Nat) (h1 : ads.ads.length ≤ n) (h2 : n ≤ (wa ads m).ads.length) : ∃ m' more, (wa ads m) = (wa (wa ads m') more) ∧ (wa ads m').ads.length = n := by
 obtain ⟨a, f⟩ := ads
 obtain ⟨b, g⟩ := m
 refine ⟨⟨b.take (n - a.length), []⟩, ⟨b.drop (n - a.length), g⟩, ?_, ?_⟩
 ·show Wd.mk (a ++ b) (f ++ g) = Wd.mk ((a ++ b.take (n - a.length)) ++ b.drop (n - a.length)) ((f ++ []) ++ g)
  rw [List.append_nil, List.append_assoc, List.take_append_drop]
 ·show (a ++ b.take (n - a.length)).length = n
  have h2' : n ≤ (a ++ b).length := h2
  have h1' : a.length ≤ n := h1
  rw [List.length_append] at h2'
  rw [List.length_append, List.length_take]
  lia
theorem zGb {tgt : Expr} {body : List Stmt} {I : Addr} {bd : St → Kt → Prop} {v : SV} {all : List SV} {slot : Nat → SO} {p : Nat} {k : Kt} {Q : CR → Shared → Prop} (ok : FmOk C F)
  (hb : ∀ (E' : Value → Shared → Prop) (st : St) (k' : Kt) (ads : Wd) (s : Shared) (Q' : CR → Shared → Prop), bd st k' → Rep w F ads st s.heap → Then w F ads s k' Q' → wpAny (model prog w) F.A (execs body F.env) (fun f s' => Q' (.fl f) s') E' s)
  {R : Result → Shared → Prop} (hR : ∀ f s', Q (.fl f) s' → R (.ok f) s') (dI : Den F.B ads (.obj p) (.ref I)) : ∀ (xs : List SV) (j : Nat) (st : St) (m : Wd) (s : Shared), forG (zAN F.sc.names tgt) bd v all slot p ads.ads.length j xs st k → all.drop j = xs → Rep w F (wa ads m) st s.heap → Then w F ads s k Q →
   codeAny (model prog w) F.A (.forLoop tgt (.ref I) body [] F.env) R s
 | [], j, st, m, s, h, hd, Rp, T => by
  obtain ⟨h1, h2, h3⟩ := h
  refine zEj (zFQ ok.hand ok Rp dI.mono h1 h2 ?_ fun s' R' x' => ?_)
  ·rw [List.getElem?_eq_none_iff]
   rw [List.drop_eq_nil_iff] at hd; exact hd
  ·exact wpAny_execs_nil (hR _ _ (T.of (r := .next) (c := .fl .next) h3 R' x' trivial))
 | x :: xs, j, st, m, s, h, hd, Rp, T => by
  obtain ⟨h1, h2, h3⟩ := h
  obtain ⟨e1, e2, e3⟩ := zGt h2 hd
  have hplt : p < st.led.length := (List.getElem?_eq_some_iff.mp h1).1
  refine zEj (zFP ok Rp dI.mono h1 h2 e1 fun s₁ u R₁ x₁ du => ?_)
  have hp1 : (st.led.set p (slot (j + 1)))[p]? = some (slot (j + 1)) := by rw [List.getElem?_set_self hplt]
  refine zDr (v := v) (st := { st with led := st.led.set p (slot (j + 1)) }) ok R₁ dI.mono hp1 ?_ e3 du ?_
  ·exact zGs h1 h2
  ·refine zCn ok R₁ du h3 fun st₂ s₂ h₂ R₂ x₂ => ?_
   refine hb _ st₂ _ (wa ads m) s₂ (fun c s' => match c with
    | .fl f => match f with
     | .next | .cont => codeAny (model prog w) F.A (.forLoop tgt (.ref I) body [] F.env) R s'
     | .brk => R (.ok .next) s'
     | .ret v => R (.ok (.ret v)) s'
    | _ => False) h₂ R₂ ?_
   intro r st₃ m₁ c s₃ h₃ R₃ x₃ d₃
   have xx := (x₁.trans x₂).trans x₃
   cases r with
   | next =>
    have go : codeAny (model prog w) F.A (.forLoop tgt (.ref I) body [] F.env) R s₃ := by
     obtain ⟨n, st₄, hb1, hb2, tr, h₄⟩ := h₃
     rw [Wd.append_assoc] at R₃
     rw [zCN R₃] at hb2
     obtain ⟨m', more, e, hn⟩ := zOK ads (wa m m₁) n hb1 hb2
     rw [e] at R₃
     rw [← hn] at tr
     obtain ⟨z, R₄⟩ := zEb ok R₃ tr
     rw [Wd.append_assoc] at R₄
     have T' := T.later (more := .nil) xx
     rw [Wd.append_nil] at T'
     exact zGb ok hb hR dI xs (j + 1) st₄ _ s₃ h₄ e2 R₄ T'
    cases c with
    | fl f => cases f <;> first | exact go | exact d₃.elim
    | _ => exact d₃.elim
   | ret y =>
    rw [Wd.append_assoc] at R₃ d₃
    cases c with
    | fl f => cases f <;> first | exact d₃.elim | exact hR _ _ (T.of (r := .ret y) (c := .fl (.ret _)) h₃ R₃ xx d₃)
    | _ => exact d₃.elim
   | _ => exact h₃.elim
noncomputable def zSS (C : Cf) (n : Nat) (ns : List (Str × NameKind)) (a b : Expr) (c : List Stmt) (pos : Pos) : HkE Stmt := ⟨pos.line, pos.col, n + 1, .For a b c [] pos, fun ns' st k => ns' = ns ∧ zCW b = true ∧ ev C n ns (.ex b) st fun r st₁ => match r with
 | .v src => ∃ all slot, srcT st₁ src = some (all, slot) ∧ forG (zAN ns a) (fun st k => ev C n ns (.sts c) st k) src all slot st₁.led.length (st₁.led.length + 1) 0 all { st₁ with led := st₁.led ++ [slot 0] } k
 | _ => False⟩
theorem zPh {C' : Cf} {n : Nat} {ns : List (Str × NameKind)} {a b : Expr} {c : List Stmt} {pos : Pos} (cok : CfOk w C) (hK : C.K = C'.K) (hk : C.known = true → C'.known = true) : HsOk w C' (zSS C n ns a b c pos) := by
 intro F E ads st s k Q ok hd hu h R T
 obtain ⟨rfl, hpi, h⟩ := h
 have ok' : FmOk C F := zAX hK ok hk
 have dd : (zSS C n F.sc.names a b c pos).d = n + 1 := rfl
 rw [dd] at hd hu
 have ih := zBs cok n
 refine wpAny_For (ih F E (.ex _) st _ ads s (fun c s' => match c with
  | .v x => wpAny (model prog w) F.A (pyIter x) _ E s'
  | _ => False) ok' (by lia) (by lia) h R ?_) (zCa hpi)
 intro r st₁ m1 c s₁ h R₁ x₁ d₁
 split at h
 ·cases c with
  | v u =>
   obtain ⟨all, slot, hs, h⟩ := h
   refine zDq ok' R₁ d₁ hs fun s₂ R₂ x₂ => ?_
   have el : st₁.led.length + 1 = (wa (wa ads m1) (Wd.one s₁.heap.objs.size 0)).ads.length := by rw [zBa R₁, Wd.ads_append (wa ads m1), List.length_append]; rfl
   rw [el] at h
   refine zGb (Q := Q) (k := k) (ads := (wa (wa ads m1) (Wd.one s₁.heap.objs.size 0))) ok' (fun E' st' k' ads' s' Q' hev R' T' => ih F E' (.sts _) st' k' ads' s' Q' ok' (by lia) (by lia) hev R' T') (fun f s' hq => hq) ?_ all 0 _ .nil s₂ h rfl (by rw [Wd.append_nil]; exact R₂) (((T.later (more := m1) x₁)).later x₂)
   exact ⟨(s₁.heap.objs.size, 0), by rw [zBa R₁]; exact zCu _ _ _, rfl⟩
  | _ => exact d₁.elim
 ·exact h.elim
end
section
variable {w : World} {C : Cf} {F : Fm} {ads : Wd} {s : Shared} {n : Nat} {st : St} {Q : CR → Shared → Prop} {E : Value → Shared → Prop}
theorem zLk {t : Expr} {b : List Stmt} {K : SR → St → Prop} (cok : CfOk w C) (ok : FmOk C F) (hd : F.A.depth + n < recursionLimit) (hu : F.A.units + 8 * n < cLine)
  (ht : ev C n F.sc.names (.tr t) st (fun r st' => r = .b true ∧ st' = st))
  (h : ev C n F.sc.names (.sts b) st (fun r st' => ∃ st'', Trim st.led.length st' st'' ∧ K r st''))
  (R : Rep w F ads st s.heap) (flow : ∀ r st'', K r st'' → r = .next ∨ r = .cont ∨ r = .brk)
  (next : ∀ st'' z s', K .next st'' ∨ K .cont st'' → Rep w F (wa ads (⟨[], z⟩ : Wd)) st'' s'.heap → Nx F s s' → Goal w F (.wl t b) Q E s')
  (brk : ∀ st'' z s', K .brk st'' → Rep w F (wa ads (⟨[], z⟩ : Wd)) st'' s'.heap → Nx F s s' → Q (.fl .next) s') : Goal w F (.wl t b) Q E s := by
 have sn := zBs cok n
 refine zIW (sn F _ (.tr t) st _ ads s (fun c s' => match c with
  | .b c => if c then wpAny (model prog w) F.A (execs b F.env) (fun f s₃ => match f with
      | .next | .cont => codeAny (model prog w) F.A (.whileLoop t b [] F.env) _ s₃
      | .brk => Q (.fl .next) s₃
      | .ret v => Q (.fl (.ret v)) s₃) _ s' else Q (.fl .next) s'
  | _ => False) ok hd hu ht R ?_)
 rintro a st₁ m1 c s₁ ⟨rfl, rfl⟩ R₁ x₁ d₁
 cases c with
 | b c' =>
  cases d₁
  dsimp only
  rw [if_pos rfl]
  have len1 : st₁.led.length = ads.ads.length := zBa R
  have len2 : st₁.led.length = (wa ads m1).ads.length := zBa R₁
  refine sn F _ (.sts b) st₁ _ (wa ads m1) s₁ (fun c s' => match c with
     | .fl f => match f with
      | .next | .cont => codeAny (model prog w) F.A (.whileLoop t b [] F.env) _ s'
      | .brk => Q (.fl .next) s'
      | .ret v => Q (.fl (.ret v)) s'
     | _ => False) ok hd hu h R₁ ?_
  intro r st₂ m2 c s₂ hk R₂ x₂ d₂
  obtain ⟨st₃, tr, hk⟩ := hk
  rw [Wd.append_assoc] at R₂
  rw [len1] at tr
  obtain ⟨z, R₃⟩ := zEb ok R₂ tr
  have x₃ := x₁.trans x₂
  rcases flow _ _ hk with rfl | rfl | rfl
  ·cases c with
   | fl f =>
    cases f <;> try exact d₂.elim
    exact next st₃ z s₂ (.inl hk) R₃ x₃
   | _ => exact d₂.elim
  ·cases c with
   | fl f =>
    cases f <;> try exact d₂.elim
    exact next st₃ z s₂ (.inr hk) R₃ x₃
   | _ => exact d₂.elim
  ·cases c with
   | fl f =>
    cases f <;> try exact d₂.elim
    exact brk st₃ z s₂ hk R₃ x₃
   | _ => exact d₂.elim
 | _ => exact d₁.elim
end
set_option backward.match.sparseCases true
section
variable {w : World} {C : Cf} {F : Fm} {ads : Wd} {s : Shared} {st : St}
theorem zDA {B : Heap} {a1 a2 : List (Addr × Addr)} {fz : List (Addr × Obj)} {x : SV} {v : Value} (hp : okV a1.length x) (d : Den B ⟨a1 ++ a2, fz⟩ x v) : Den B ⟨a1, fz⟩ x v := by
 cases x with
 | obj i =>
  obtain ⟨p, hp', e⟩ := d
  refine ⟨p, ?_, e⟩
  rw [List.getElem?_append_left hp] at hp'
  exact hp'
 | _ => exact d
theorem zKK {B : Heap} {a1 a2 : List (Addr × Addr)} {fz : List (Addr × Obj)} : ∀ {xs : List SV} {vs : List Value}, (∀ x ∈ xs, okV a1.length x) → DenL B ⟨a1 ++ a2, fz⟩ xs vs → DenL B ⟨a1, fz⟩ xs vs := by
 intro xs vs p r
 induction r with
 | nil => exact .nil
 | cons d _ ih => exact .cons (zDA (p _ (.head _)) d) (ih fun x hx => p x (.tail _ hx))
theorem zMe {α : Type} (a b c : List α) : (a ++ b ++ c).Perm (b ++ (a ++ c)) := by
 rw [← List.append_assoc b]; exact List.Perm.append_right _ List.perm_append_comm
theorem zQJ {α : Type} (a b c : List α) (x : α) : (a ++ (b ++ x :: c)).Perm (x :: (a ++ (b ++ c))) := by
 rw [← List.append_assoc, ← List.append_assoc]; exact List.perm_middle
theorem zPm {P : Params} {B : Heap} {a1 a2 : List (Addr × Addr)} {fz : List (Addr × Obj)} : ∀ {fs : List (Str × SV)} {es : List DictEntry}, okF a1.length fs → EntR P B ⟨a1 ++ a2, fz⟩ es fs → EntR P B ⟨a1, fz⟩ es fs := by
 intro fs es h r
 induction r with
 | nil => exact .nil
 | cons d _ ih => exact .cons (zDA h.1 d) (ih h.2)
theorem zRz {B : Heap} {a1 a2 : List (Addr × Addr)} {fz : List (Addr × Obj)} : ∀ {fs : List (Str × SV)} {kvs : List (Str × Value)}, okF a1.length fs → KvR B ⟨a1 ++ a2, fz⟩ fs kvs → KvR B ⟨a1, fz⟩ fs kvs := by
 intro fs es h r
 induction r with
 | nil => exact .nil
 | cons d _ ih => exact .cons (zDA h.1 d) (ih h.2)
noncomputable def okO (n : Nat) : SO → Prop
 | .inst _ fs => okF n fs
 | .list xs => ∀ x ∈ xs, okV n x
 | .tup xs => ∀ x ∈ xs, okV n x
 | .cell (some v) => okV n v
 | .dic fs => okF n fs
 | .it _ v _ => okV n v
 | _ => True
noncomputable def okL (n : Nat) : List SO → Prop
 | [] => True
 | o :: r => okO n o ∧ okL n r
theorem zRl {P : Params} {B : Heap} {a1 a2 : List (Addr × Addr)} {fz : List (Addr × Obj)} {so : SO} {a d : Addr} {ps : List (Addr × Obj)} (h : okO a1.length so) (o : One P B ⟨a1 ++ a2, fz⟩ so a d ps) : One P B ⟨a1, fz⟩ so a d ps := by
 cases so with
 | inst => obtain ⟨_, _, e, rfl⟩ := o.inv; exact .inst (zPm h e)
 | raw => obtain rfl := o.inv; exact .raw
 | list => obtain ⟨_, _, e, rfl⟩ := o.inv; exact .list (zKK h e)
 | tup => obtain ⟨_, _, e, rfl⟩ := o.inv; exact .tup (zKK h e)
 | cell v =>
  obtain ⟨_, rfl, e⟩ := o.inv
  cases v with
  | some _ => obtain ⟨_, e, d⟩ := e; exact .cell e (zDA h d)
  | none => exact .cell0 e
 | dic => obtain ⟨_, _, e, f, rfl⟩ := o.inv; exact .dic e (zRz h f)
 | it => obtain ⟨_, _, e, d, rfl⟩ := o.inv; exact .it e (zDA h d)
 | itr => obtain rfl := o.inv; exact .itr
 | rng => obtain ⟨_, _, _, e, rfl⟩ := o.inv; exact .rng e
 | tab => obtain ⟨rfl, _, e, rfl⟩ := o.inv; exact .tab e
 | gone => obtain rfl := o.inv; exact .gone
theorem zRv {P : Params} {B : Heap} {a1 a2 : List (Addr × Addr)} {fz : List (Addr × Obj)} : ∀ {led : List SO} {as : List (Addr × Addr)} {news : List (Addr × Obj)}, okL a1.length led → LedR P B ⟨a1 ++ a2, fz⟩ as led news → LedR P B ⟨a1, fz⟩ as led news := by
 intro led as news h r
 induction r with
 | nil => exact .nil
 | cons o _ ih => exact .cons (zRl h.1 o) (ih h.2)
theorem zGk {kindOf : Str → Option NameKind} {x : Str} : ∀ {binds : List (Str × Value)} {m : Str → Option Value}, x ∉ binds.map (·.1) → bindL kindOf binds m x = m x
 | [], _, _ => rfl
 | (n, v) :: r, m, h => by
  rw [List.map_cons, List.mem_cons, not_or] at h
  unfold bindL
  rw [zGk h.2]
  split
  ·exact if_neg h.1
  ·rfl
theorem zDy {kindOf : Str → Option NameKind} {x : Str} : ∀ {binds : List (Str × Value)} {m : Str → Option Value}, x ∉ binds.map (·.1) → bindC kindOf binds m x = m x
 | [], _, _ => rfl
 | (n, v) :: r, m, h => by
  rw [List.map_cons, List.mem_cons, not_or] at h
  unfold bindC
  rw [zDy h.2]
  split
  ·rfl
  ·exact if_neg h.1
theorem zId {kindOf : Str → Option NameKind} {x : Str} {v : Value} (hk : kindOf x = some .local) : ∀ {binds : List (Str × Value)} {m : Str → Option Value}, (binds.map (·.1)).Nodup → (x, v) ∈ binds → bindL kindOf binds m x = some v
 | (n, u) :: r, m, nd, h => by
  rw [List.map_cons, List.nodup_cons] at nd
  unfold bindL
  rcases List.mem_cons.mp h with e | h
  ·cases e
   rw [zGk nd.1, if_pos hk]
   exact if_pos rfl
  ·exact zId hk nd.2 h
theorem zIe {kindOf : Str → Option NameKind} {x : Str} {v : Value} (hk : kindOf x ≠ some .local) : ∀ {binds : List (Str × Value)} {m : Str → Option Value}, (binds.map (·.1)).Nodup → (x, v) ∈ binds → bindC kindOf binds m x = some v
 | (n, u) :: r, m, nd, h => by
  rw [List.map_cons, List.nodup_cons] at nd
  unfold bindC
  rcases List.mem_cons.mp h with e | h
  ·cases e
   rw [zDy nd.1, if_neg hk]
   exact if_pos rfl
  ·exact zIe hk nd.2 h
noncomputable def zCB (loc : List (Str × SV)) : List Str → List SO
 | [] => []
 | c :: r => .cell (lk c loc) :: zCB loc r
noncomputable def zDx : List Str → Nat → List (Str × SV)
 | [], _ => []
 | c :: r, i => (c, .obj i) :: zDx r (i + 1)
noncomputable def zCc (cs : List Str) (loc : List (Str × SV)) (led : List SO) : St := match cs with
 | [] => ⟨loc, led⟩
 | c :: r => ⟨zDx (c :: r) led.length ++ loc, led ++ zCB loc (c :: r)⟩
theorem zLR (cs : List Str) (loc : List (Str × SV)) (led : List SO) : zCc cs loc led = ⟨zDx cs led.length ++ loc, led ++ zCB loc cs⟩ := by
 cases cs with
 | nil => show St.mk _ _ = St.mk _ _; simp [zDx, zCB]
 | cons c r => rfl
theorem zGP {x : Str} {sv : SV} : ∀ {cs : List Str} {i : Nat} {loc : List (Str × SV)}, lk x (zDx cs i ++ loc) = some sv → (∃ j, cs[j]? = some x ∧ sv = .obj (i + j)) ∨ (x ∉ cs ∧ lk x loc = some sv)
 | [], i, loc, h => .inr ⟨List.not_mem_nil, h⟩
 | c :: r, i, loc, h => by
  have h' : lk x ((c, SV.obj i) :: (zDx r (i + 1) ++ loc)) = some sv := h
  unfold lk at h'
  cases q : Fast.sEq x c with
  | true =>
   rw [q] at h'; cases h'
   exact .inl ⟨0, by rw [zAQ q]; rfl, rfl⟩
  | false =>
   rw [q] at h'
   rcases zGP h' with ⟨j, a, b⟩ | ⟨a, b⟩
   ·exact .inl ⟨j + 1, by simpa using a, by rw [b]; congr 1; lia⟩
   ·exact .inr ⟨by rw [List.mem_cons, not_or]; exact ⟨zAo q, a⟩, b⟩
theorem zNz {P : Params} {B : Heap} {G : Wd} {cm : Str → Option Value} {loc : List (Str × SV)} : ∀ {cs : List (Str × Addr)} {cells : List (Addr × Obj)}, CellsAre cm cs cells → (∀ n ∈ cs.map (·.1), (lk n loc = none ∧ cm n = none) ∨ ∃ sv v, lk n loc = some sv ∧ cm n = some v ∧ Den B G sv v) →
  LedR P B G (cs.map fun p => (p.2, 0)) (zCB loc (cs.map (·.1))) cells := by
 intro cs cells r
 induction r with
 | nil => exact fun _ => .nil
 | @cons n c o cs cells hd r ih =>
  intro h
  have one : One P B G (.cell (lk n loc)) c 0 [(c, o)] := by
   rcases h n (.head _) with ⟨a, b⟩ | ⟨sv, v, a, b, d⟩
   ·rw [a]; rw [b] at hd; exact .cell0 hd
   ·rw [a]; rw [b] at hd; exact .cell hd d
  exact .cons one (ih fun m hm => h m (.tail _ hm))
theorem zDe {cm : Str → Option Value} : ∀ {cs : List (Str × Addr)} {cells : List (Addr × Obj)}, CellsAre cm cs cells → cells.map (·.1) = cs.map (·.2) := by
 intro cs cells h
 induction h with
 | nil => rfl
 | cons _ _ ih => rw [List.map_cons, List.map_cons, ih]
theorem zPp {cs : List (Str × Addr)} (nd : (cs.map (·.1)).Nodup) {x : Str} {j : Nat} (h : (cs.map (·.1))[j]? = some x) : ∃ a, cs.lookup x = some a ∧ cs[j]? = some (x, a) := by
 rw [List.getElem?_map, Option.map_eq_some_iff] at h
 obtain ⟨p, hp, rfl⟩ := h
 exact ⟨p.2, lookup_of_mem_nodup nd (List.mem_of_getElem? hp), hp⟩
structure FnOk0 (K : Frag) (e : FnE) : Prop where
 at_ : ∃ oc od osl fd, K.lookup e.fa = some (⟨oc, od, .func fd, osl⟩ : Obj) ∧ fd.body = .stmts e.body ∧ fd.scope = e.scope ∧ (∀ L a, callEnv fd L a = envOf e.qual e.scope L a e.cd) ∧ fd.code = e.cd ∧ fd.qualname = e.qual
 celk : ∀ x ∈ e.cells, e.scope.names.lookup x = some .cell
 code : codeIn K e.cd e.qual = true
 cells : ∀ n, (cellsFrom n e.scope.names []).map (·.1) = e.cells
 co : e.scope.isCoroutine = false
 gen : e.scope.isGenerator = false
 kind : e.scope.kind = .function
theorem FnOk.to0 {K : Frag} {e : FnE} (f : FnOk K e) : FnOk0 K e :=
 let ⟨oc, od, osl, fd, g1, g2, g3, g4, g5, g6, _⟩ := f.at_
 ⟨⟨oc, od, osl, fd, g1, g2, g3, g4, g5, g6⟩, f.celk, f.code, f.cells, f.co, f.gen, f.kind⟩
theorem zIR {loc₀ : List (Str × SV)} {args : Args} {e : FnE} {A : Around} {Rr : Result → Shared → Prop} {led₁ led₂ : List SO} (fo : FnOk0 C.K e) (ok : FmOk C F)
  (hA : C.known = true → A.frames = some F.stk) (hh : A.handled = none) (hd : A.depth < recursionLimit) (R : Rep w F ads st s.heap)
  (hled : st.led = led₁ ++ led₂) (hol : okL led₁.length led₁) (hov : okF led₁.length loc₀) (hcn : e.cells.Nodup)
  (hbind : ∀ (oc : Value) (od : Option Addr) (osl : Array (Option Value)) (fd : FuncData), C.K.lookup e.fa = some (⟨oc, od, .func fd, osl⟩ : Obj) → C.K.In s.heap → ∀ (M : Model) (A : Around) (E : Value → Shared → Prop) (Q : List (Str × Value) → Shared → Prop),
   (∀ h' binds, (∀ b o, s.heap.get? b = some o → h'.get? b = some o) → (∀ x ∈ binds, e.scope.names.lookup x.1 = some .local ∨ (e.scope.names.lookup x.1 = some .cell ∧ x.1 ∈ e.cells)) → (binds.map (·.1)).Nodup → (∀ x sv, lk x loc₀ = some sv → ∃ v, (x, v) ∈ binds ∧ Den F.B ads sv v) →
    (∀ x ∈ binds.map (·.1), x ∈ e.cells → (lk x loc₀).isSome = true) → Q binds { s with heap := h' }) →
   wpAny M A (bindArgs fd args) Q E s)
  (h : ∀ (F' : Fm) (W Wc : Wd) (h₁ : Heap) (t : Nat), FmOk C F' → F'.A = A.deeper F'.env → F'.sc = e.scope → F'.B = F.B → (F'.stk = F'.env :: F.stk ∧ F'.quiet = F.quiet ∧ F'.env.code = e.cd) → Wc.fz = [] → W.ads.length = led₁.length → Rep w F' (wa W Wc) (zCc e.cells loc₀ led₁) h₁ →
   (∀ z loc' led' h', Rep w F' (wa W (⟨[], z⟩ : Wd)) ⟨loc', led'⟩ h' → Rep w F (wa ads (⟨[], z⟩ : Wd)) { loc := st.loc, led := led' ++ led₂ } h') →
   (∀ z y v, Den F.B (wa W (⟨[], z⟩ : Wd)) y v → Den F.B (wa ads (⟨[], z⟩ : Wd)) y v) →
   wpAny (model prog w) F'.A (execs e.body F'.env) (fun f s' => Rr (.ok (.ret (match f with | .ret v => v | _ => .none))) s')
    (fun x s' => wpAny (model prog w) F'.A (leaving F'.env x) (fun _ s'' => Rr (.error x) s'') (fun x' s'' => Rr (.error x') s'') s') { s with heap := h₁, toks := t }) :
  codeAny (model prog w) A (.call (.ref e.fa) args) Rr s := by
 obtain ⟨oc, od, osl, fd, g1, g2, g3, g4, g5, g6⟩ := fo.at_
 have XK0 : C.K.In s.heap := zGx ok R
 have hclo : fd.closure = [] := congrArg Env.cells (g4 0 0)
 refine codeAny_call_function hd (XK0 _ _ g1) rfl (by rw [g3]; exact fo.co) (by rw [g3]; exact fo.gen) g2 (by rw [g5, g6]; exact codeRec_of XK0 fo.code) (hbind oc od osl fd g1 XK0 _ _ _ _ fun hb binds kb hloc nd hden hall => ?_)
 have R := zEc R kb
 revert R
 generalize es0 : ({ s with heap := hb } : Shared) = s₀
 intro R
 have ehb : s₀.heap = hb := by rw [← es0]
 rw [← ehb] at R
 have nx0 : ∀ h₁ t, ({ s₀ with heap := h₁, toks := t } : Shared) = { s with heap := h₁, toks := t } := fun h₁ t => by rw [← es0]
 have hlim : s₀.heap.NoLimit := let ⟨_, _, _, X⟩ := R; ok.G.lim.keeps X.fr.keep
 rw [hclo]
 have hkind : ∀ x ∈ binds, fd.scope.names.lookup x.1 = some .local ∨ (fd.scope.names.lookup x.1 = some .cell ∧ ((cellsFrom (s₀.heap.objs.size + 1) fd.scope.names []).lookup x.1).isSome = true) := fun x hx => by
  rw [g3]
  exact (hloc x hx).imp id fun q => ⟨q.1, cellsFrom_some _ _ _ (.inl q.1)⟩
 refine wpAny_newFunctionEnv_cells (by rw [g3]; exact fo.kind) hkind fun env he s₁ IC => ⟨hlim.keeps IC.toInCall.keep, codeAny_func ?_⟩
 let cs : List (Str × Addr) := cellsFrom (s₀.heap.objs.size + 1) e.scope.names []
 let en : Env := { envOf e.qual e.scope s₀.heap.objs.size e.fa e.cd with cells := cs }
 have hen : env = en := by
  rw [he]
  have g4' := g4 s₀.heap.objs.size e.fa
  show newEnv fd.scope s₀.heap.objs.size fd.globals (cellsFrom (s₀.heap.objs.size + 1) fd.scope.names []) (fd.qualname ++ ".<locals>.") (some e.fa) fd.code none fd.builtins = _
  rw [g3]
  have g4'' : { callEnv fd s₀.heap.objs.size e.fa with cells := cs } = en := by rw [g4']
  rw [← g4'']
  show newEnv e.scope _ _ _ _ _ _ _ _ = { newEnv fd.scope s₀.heap.objs.size fd.globals fd.closure (fd.qualname ++ ".<locals>.") (some e.fa) fd.code none fd.builtins with cells := cs }
  rw [g3]; rfl
 clear he
 subst hen
 obtain ⟨h₁, tk, rfl⟩ := IC.toInCall.same
 have hns : h₁.Ns s₀.heap.objs.size (bindL en.kindOf binds fun _ => none) := IC.toInCall.ns
 have hk₁ : ∀ b o, s₀.heap.get? b = some o → h₁.get? b = some o := IC.toInCall.keep
 have hcell : ∀ n c, cs.lookup n = some c → h₁.IsCell c (bindC en.kindOf binds (fun _ => none) n) := IC.cell
 have hap : cs.Pairwise fun x y => x.2 ≠ y.2 := IC.apart
 have hab : ∀ n c, (n, c) ∈ cs → s₀.heap.objs.size < c := IC.above
 have csn : cs.map (·.1) = e.cells := fo.cells _
 clear IC
 rw [nx0]
 obtain ⟨m, news, lw, X⟩ := R
 obtain ⟨oL, es, ep, hL, hLd, hLk, hLf⟩ := X.fr.ns
 have hF0 : F.h₀.get? F.L = none := by
  cases q : F.h₀.get? F.L with
  | none => rfl
  | some o => exact absurd (Heap.lt_size q) (Nat.not_lt.mpr X.fr.above)
 -- the ledger in two
 obtain ⟨asx, fz⟩ := ads
 obtain ⟨a1, a2, ea, hla⟩ : ∃ a1 a2, asx = a1 ++ a2 ∧ led₁.length = a1.length := by
  refine ⟨asx.take led₁.length, asx.drop led₁.length, (List.take_append_drop _ _).symm, ?_⟩
  have q : st.led.length = asx.length := X.led.length
  rw [hled, List.length_append] at q
  rw [List.length_take]; lia
 subst ea
 obtain ⟨n1, n2, e12, r1, r2⟩ : ∃ n1 n2, news = n1 ++ n2 ∧ LedR w.params F.B ⟨a1 ++ a2, fz⟩ a1 led₁ n1 ∧ LedR w.params F.B ⟨a1 ++ a2, fz⟩ a2 led₂ n2 := by
  have q := X.led
  rw [hled] at q
  exact zIA hla q
 subst e12
 let all : List (Addr × Obj) := n1 ++ (fz ++ ((F.L, oL) :: lw))
 have pmX : (n1 ++ n2 ++ (fz ++ lw)).Perm (n2 ++ (n1 ++ (fz ++ lw))) := zMe _ _ _
 have ndX := (pmX.map (·.1)).nodup_iff.mp X.nd
 rw [List.map_append] at ndX
 have ndX' := List.nodup_append.mp ndX
 have pmA : all.Perm ((F.L, oL) :: (n1 ++ (fz ++ lw))) := zQJ _ _ _ _
 have inX : ∀ p ∈ n1 ++ (fz ++ lw), p ∈ n1 ++ n2 ++ (fz ++ lw) := fun p hp => pmX.mem_iff.mpr (List.mem_append_right _ hp)
 have nwA : ∀ p ∈ all, s₀.heap.get? p.1 = some p.2 ∧ F.h₀.get? p.1 = none := fun p hp => by
  rcases List.mem_cons.mp (pmA.mem_iff.mp hp) with rfl | q
  ·exact ⟨hL, hF0⟩
  ·exact ⟨(X.nw p (inX p q)).1, (X.nw p (inX p q)).2.2⟩
 have ndA : (all.map (·.1)).Nodup := by
  refine (pmA.map (·.1)).nodup_iff.mpr (List.nodup_cons.mpr ⟨fun q => ?_, ndX'.2.1⟩)
  obtain ⟨p, hp, e⟩ := List.mem_map.mp q
  exact (X.nw p (inX p hp)).2.1 e
 have nm : ∀ b o, F.h₀.get? b = some o → b ∉ all.map (·.1) := fun b o e q => by
  obtain ⟨p, hp, rfl⟩ := List.mem_map.mp q
  rw [(nwA p hp).2] at e; cases e
 have in2 : ∀ p ∈ n2, p ∈ n1 ++ n2 ++ (fz ++ lw) := fun p hp => pmX.mem_iff.mpr (List.mem_append_left _ hp)
 have nm2 : ∀ p ∈ n2, p.1 ∉ all.map (·.1) := fun p hp q => by
  have : p.1 ∈ ((F.L, oL) :: (n1 ++ (fz ++ lw))).map (·.1) := (pmA.map (·.1)).mem_iff.mp q
  rcases List.mem_cons.mp this with q | q
  ·exact (X.nw p (in2 p hp)).2.1 q
  ·exact ndX'.2.2 _ (List.mem_map_of_mem hp) _ q rfl
 have stay : F.h₀.StaysIn (hideAll s₀.heap (all.map (·.1))) := fun b o e => hideAll_get _ (X.fr.keep b o e) (nm b o e)
 let F' : Fm := ⟨F.B, hideAll s₀.heap (all.map (·.1)), s₀.heap.objs.size, en, A.deeper en, en :: F.stk, (F.L, oL) :: lw, F.quiet⟩
 have low' : LowOk (en :: F.stk) s₀.heap.objs.size ((F.L, oL) :: lw) := by
  exact (ok.low.ups X.ups).push (by show e.scope.kind ≠ _; rw [fo.kind]; decide) rfl fun vs q => by rw [hLd] at q; cases q
 have csnd : (cs.map (·.1)).Nodup := by rw [csn]; exact hcn
 have cel : ∀ x, e.scope.names.lookup x = some .local → cs.lookup x = none := fun x hx => by
  cases q : cs.lookup x with
  | none => rfl
  | some a =>
   have : x ∈ e.cells := csn ▸ List.mem_map_of_mem (mem_of_lookup q)
   rw [fo.celk x this] at hx; cases hx
 have ok' : FmOk C F' := ⟨ok.X.keeps stay, ok.G.keeps stay, fun b o e => stay b o (ok.stay b o e), fo.kind, hh, fun q => Around.frames_deeper (hA q), ok.loud, low', rfl, rfl, rfl, cel, fun x hx => Option.isSome_iff_exists.mp (cellsFrom_some _ _ _ (.inl hx))⟩
 rw [hla] at hol hov
 -- the cells
 obtain ⟨cells, cnw, car⟩ := Cl.news (h₀ := F'.h₀) (h := h₁) (L := s₀.heap.objs.size) (cm := bindC en.kindOf binds (fun _ => none)) (Nat.le_of_eq (hideAll_size _ _)) (cs := cs) fun n c hm => ⟨hcell n c (lookup_of_mem_nodup csnd hm), hab n c hm⟩
 have cbig : ∀ p ∈ cells, s₀.heap.objs.size < p.1 := fun p hp => by
  have : p.1 ∈ cs.map (·.2) := zDe car ▸ List.mem_map_of_mem hp
  obtain ⟨q, hq, e⟩ := List.mem_map.mp this
  exact e ▸ hab q.1 q.2 hq
 have R' : Rep w F' (wa (⟨a1, fz⟩ : Wd) (⟨cs.map fun p => (p.2, 0), []⟩ : Wd)) (zCc e.cells loc₀ led₁) h₁ := by
  rw [zLR]
  have efz : (wa (⟨a1, fz⟩ : Wd) (⟨cs.map fun p => (p.2, 0), []⟩ : Wd)).fz = fz := List.append_nil _
  have pm : (n1 ++ cells ++ (fz ++ (F.L, oL) :: lw)).Perm (cells ++ all) := zMe _ _ _
  refine ⟨_, n1 ++ cells, (F.L, oL) :: lw, ⟨hns, fun b o q => hk₁ b o (of_hideAll _ q), Nat.le_of_eq (hideAll_size _ _)⟩, fun p hp => ?_, ?_, ?_, ?_, Ups.refl _⟩
  ·rw [efz] at hp
   rcases List.mem_append.mp (pm.mem_iff.mp hp) with hp | hp
   ·exact cnw p hp
   ·exact ⟨hk₁ _ _ (nwA p hp).1, Nat.ne_of_lt (Heap.lt_size (nwA p hp).1), hideAll_none _ (List.mem_map_of_mem hp)⟩
  ·intro x sv hx
   show ∃ v, locM en (bindL en.kindOf binds fun _ => none) x = some v ∧ _
   rcases zGP hx with ⟨j, hj, rfl⟩ | ⟨hx, hl⟩
   ·rw [← csn] at hj
    obtain ⟨a, q1, q2⟩ := zPp csnd hj
    refine ⟨.ref a, by unfold locM; rw [show en.cells.lookup x = some a from q1], (a, 0), ?_, rfl⟩
    show (a1 ++ cs.map fun p => (p.2, 0))[led₁.length + j]? = _
    rw [hla, List.getElem?_append_right (by lia), Nat.add_sub_cancel_left, List.getElem?_map, q2]; rfl
   ·obtain ⟨v, a, b⟩ := hden x sv hl
    have hk : e.scope.names.lookup x = some .local := (hloc _ a).resolve_right fun q => hx q.2
    refine ⟨v, ?_, (zDA (zFE hov _ (zCs hl)) b).mono⟩
    have : locM en (bindL en.kindOf binds fun _ => none) x = (bindL en.kindOf binds fun _ => none) x := by unfold locM; rw [show en.cells.lookup x = none from cel x hk]
    rw [this]
    exact zId hk nd a
  ·show LedR w.params F.B _ (a1 ++ cs.map fun p => (p.2, 0)) (led₁ ++ zCB loc₀ e.cells) (n1 ++ cells)
   refine LedR.append ((zRv hol r1).mono) ?_
   rw [← csn]
   refine zNz car fun n hn => ?_
   have hkc : e.scope.names.lookup n = some .cell := fo.celk n (csn ▸ hn)
   have hnl : en.kindOf n ≠ some .local := by rw [show en.kindOf n = some .cell from hkc]; decide
   cases q : lk n loc₀ with
   | some sv =>
    obtain ⟨v, a, b⟩ := hden n sv q
    exact .inr ⟨sv, v, rfl, zIe hnl nd a, (zDA (zFE hov _ (zCs q)) b).mono⟩
   | none =>
    refine .inl ⟨rfl, zDy fun hm => ?_⟩
    have := hall n hm (csn ▸ hn)
    rw [q] at this; cases this
  ·rw [efz]
   refine (pm.map (·.1)).nodup_iff.mpr ?_
   rw [List.map_append, List.nodup_append]
   refine ⟨?_, ndA, fun a ha b hb e => ?_⟩
   ·rw [zDe car, List.nodup_iff_pairwise_ne, List.pairwise_map]; exact hap
   ·obtain ⟨p, hp, rfl⟩ := List.mem_map.mp ha
    obtain ⟨q, hq, rfl⟩ := List.mem_map.mp hb
    have h1 := cbig p hp
    have h2 := Heap.lt_size (nwA q hq).1
    rw [e] at h1
    exact Nat.lt_asymm h1 h2
 have eW : ∀ z : List (Addr × Obj), (wa (⟨a1 ++ a2, fz⟩ : Wd) (⟨[], z⟩ : Wd)) = (wa (wa (⟨a1, fz⟩ : Wd) (⟨[], z⟩ : Wd)) (⟨a2, []⟩ : Wd)) := fun z => by
  show Wd.mk (a1 ++ a2 ++ []) (fz ++ z) = Wd.mk (a1 ++ [] ++ a2) (fz ++ z ++ [])
  simp
 refine h F' ⟨a1, fz⟩ _ h₁ _ ok' rfl rfl rfl ⟨rfl, rfl, rfl⟩ rfl hla.symm R' ?_ ?_
 ·intro z loc' led' h' R1
  obtain ⟨m', news', lw', X'⟩ := R1
  have u := X'.ups
  have nw' : ∀ p ∈ news' ++ ((fz ++ z) ++ lw'), h'.get? p.1 = some p.2 ∧ p.1 ≠ F'.L ∧ F'.h₀.get? p.1 = none := X'.nw
  have nd' : ((news' ++ ((fz ++ z) ++ lw')).map (·.1)).Nodup := X'.nd
  cases u with
  | cons u =>
   rename_i sl lw₂
   have pm : (news' ++ ((fz ++ z) ++ ((F.L, { oL with slots := sl }) :: lw₂))).Perm ((F.L, { oL with slots := sl }) :: (news' ++ ((fz ++ z) ++ lw₂))) := zQJ _ _ _ _
   have nd2 := (pm.map (·.1)).nodup_iff.mp nd'
   rw [List.map_cons, List.nodup_cons] at nd2
   have hLn := (nw' _ (pm.mem_iff.mpr (.head _))).1
   have hid : ∀ p ∈ n2, (hideAll s₀.heap (all.map (·.1))).get? p.1 = some p.2 := fun p hp => hideAll_get _ (X.nw p (in2 p hp)).1 (nm2 p hp)
   have pm3 : (news' ++ n2 ++ ((fz ++ z) ++ lw₂)).Perm (n2 ++ (news' ++ ((fz ++ z) ++ lw₂))) := zMe _ _ _
   refine ⟨m, news' ++ n2, lw₂, ⟨⟨_, es, ep, hLn, hLd, hLk, hLf⟩, fun b o q => X'.fr.keep b o (stay b o q), X.fr.above⟩, fun p hp => ?_, X.loc.mono, ?_, ?_, X.ups.trans u⟩
   ·rcases List.mem_append.mp (pm3.mem_iff.mp hp) with hp | hp
    ·exact ⟨X'.fr.keep _ _ (hid p hp), (X.nw p (in2 p hp)).2⟩
    ·refine ⟨(nw' p (pm.mem_iff.mpr (.tail _ hp))).1, fun q => ?_, ?_⟩
     ·exact nd2.1 (List.mem_map.mpr ⟨p, hp, q⟩)
     ·cases q : F.h₀.get? p.1 with
      | none => rfl
      | some o =>
       have hz : (hideAll s₀.heap (all.map (·.1))).get? p.1 = none := (nw' p (pm.mem_iff.mpr (.tail _ hp))).2.2
       rw [stay _ _ q] at hz; cases hz
   ·have q1 : LedR w.params F.B (wa (⟨a1 ++ a2, fz⟩ : Wd) (⟨[], z⟩ : Wd)) a1 led' news' := by
     rw [eW]
     have := X'.led.mono (more := ⟨a2, []⟩)
     have ea1 : (wa (⟨a1, fz⟩ : Wd) (⟨[], z⟩ : Wd)).ads = a1 := List.append_nil a1
     rw [ea1] at this
     exact this
    have q2 := r2.mono (more := ⟨[], z⟩)
    have ea2 : (wa (⟨a1 ++ a2, fz⟩ : Wd) (⟨[], z⟩ : Wd)).ads = a1 ++ a2 := List.append_nil _
    rw [ea2]
    exact q1.append q2
   ·refine (pm3.map (·.1)).nodup_iff.mpr ?_
    rw [List.map_append, List.nodup_append]
    refine ⟨ndX'.1, nd2.2, fun a ha b hb e => ?_⟩
    obtain ⟨p, hp, rfl⟩ := List.mem_map.mp ha
    obtain ⟨q, hq, rfl⟩ := List.mem_map.mp hb
    have z1 := hid p hp
    have z2 : (hideAll s₀.heap (all.map (·.1))).get? q.1 = none := (nw' q (pm.mem_iff.mpr (.tail _ hq))).2.2
    rw [← e, z1] at z2; cases z2
 ·intro z y v d
  rw [eW]; exact d.mono
theorem zGO {n : Nat} : ∀ {a b : List (Str × SV)}, okF n a → okF n b → okF n (a ++ b)
 | [], _, _, h => h
 | (_, _) :: _, _, h, h' => ⟨h.1, zGO h.2 h'⟩
theorem zMk {n : Nat} : ∀ {xs : List Str} {svs : List SV}, (∀ x ∈ svs, okV n x) → okF n (zipS xs svs)
 | [], _, _ => trivial
 | _ :: _, [], _ => trivial
 | _ :: _, _ :: _, h => ⟨h _ (.head _), zMk fun x hx => h x (.tail _ hx)⟩
theorem zPE {n : Nat} (v : Value) : okV n (toSV v) := by cases v <;> trivial
theorem zJv {n : Nat} : ∀ more : List (Str × Value), okF n (zCE more)
 | [] => trivial
 | (_, v) :: r => ⟨zPE v, zJv r⟩
theorem zFH {α : Type} {x : Str} : ∀ {l : List (Str × α)}, x ∈ l.map (·.1) → (lk x l).isSome = true
 | (y, a) :: r, h => by
  unfold lk
  cases q : Fast.sEq x y with
  | true => rfl
  | false =>
   rw [List.map_cons, List.mem_cons] at h
   exact zFH (h.resolve_left (zAo q))
theorem zFx : ∀ (xs : List Str) (vs : List SV), xs.length = vs.length → (zipS xs vs).map (·.1) = xs
 | [], [], _ => rfl
 | x :: xs, v :: vs, h => by
  show x :: (zipS xs vs).map (·.1) = _
  rw [zFx xs vs (by simpa using h)]
 | [], _ :: _, h => by simp at h
 | _ :: _, [], h => by simp at h
theorem zEn : ∀ more : List (Str × Value), (zCE more).map (·.1) = more.map (·.1)
 | [] => rfl
 | (x, v) :: r => by show x :: (zCE r).map (·.1) = _; rw [zEn r]; rfl
theorem zJG {B : Heap} {G : Wd} {xs : List Str} {svs : List SV} {vs : List Value} {more : List (Str × Value)} {x : Str} (D : DenL B G svs vs) (hl : xs.length = svs.length) (h : x ∈ (zipV xs vs ++ more).map (·.1)) : (lk x (zipS xs svs ++ zCE more)).isSome = true := by
 refine zFH ?_
 rw [List.map_append, zBT xs vs (hl.trans D.length)] at h
 rw [List.map_append, zFx xs svs hl, zEn]
 exact h
theorem zFb {svs : List SV} {vs : List Value} {e : FnE} {A : Around} {Rr : Result → Shared → Prop} {led₁ led₂ : List SO} (fo : FnOk C.K e) (ok : FmOk C F)
  (hA : C.known = true → A.frames = some F.stk) (hh : A.handled = none) (hd : A.depth < recursionLimit) (R : Rep w F ads st s.heap) (D : DenL F.B ads svs vs) (hlen : vs.length = e.na)
  (hled : st.led = led₁ ++ led₂) (hol : okL led₁.length led₁) (hov : ∀ x ∈ svs, okV led₁.length x) (hcn : e.cells.Nodup)
  (h : ∀ (F' : Fm) (W Wc : Wd) (h₁ : Heap) (t : Nat), FmOk C F' → F'.A = A.deeper F'.env → F'.sc = e.scope → F'.B = F.B → (F'.stk = F'.env :: F.stk ∧ F'.quiet = F.quiet ∧ F'.env.code = e.cd) → Wc.fz = [] → W.ads.length = led₁.length → Rep w F' (wa W Wc) (zCc e.cells (zipS e.names svs ++ zCE e.more) led₁) h₁ →
   (∀ z loc' led' h', Rep w F' (wa W (⟨[], z⟩ : Wd)) ⟨loc', led'⟩ h' → Rep w F (wa ads (⟨[], z⟩ : Wd)) { loc := st.loc, led := led' ++ led₂ } h') →
   (∀ z y v, Den F.B (wa W (⟨[], z⟩ : Wd)) y v → Den F.B (wa ads (⟨[], z⟩ : Wd)) y v) →
   wpAny (model prog w) F'.A (execs e.body F'.env) (fun f s' => Rr (.ok (.ret (match f with | .ret v => v | _ => .none))) s')
    (fun x s' => wpAny (model prog w) F'.A (leaving F'.env x) (fun _ s'' => Rr (.error x) s'') (fun x' s'' => Rr (.error x') s'') s') { s with heap := h₁, toks := t }) :
  codeAny (model prog w) A (.call (.ref e.fa) ⟨vs, []⟩) Rr s := by
 refine zIR (loc₀ := zipS e.names svs ++ zCE e.more) fo.to0 ok hA hh hd R hled hol (zGO (zMk hov) (zJv _)) hcn (fun oc od osl fd g1 XK M A E Q hQ => ?_) h
 obtain ⟨oc', od', osl', fd', g1', g2, g3, g4, g5, g6, g7⟩ := fo.at_
 rw [g1] at g1'
 cases g1'
 refine g7 s vs XK hlen M A E Q (hQ s.heap _ (fun _ _ e => e) (fun x hx => fo.loc x.1 ?_) ?_ (fun x sv hx => zMx (fun y hy => fo.more y hy F.B ads) D hx) fun x hx _ => zJG D (by rw [fo.len, ← hlen, D.length]) hx)
 ·rcases List.mem_append.mp hx with q | q
  ·exact List.mem_append_left _ (zBT e.names vs (by rw [fo.len, hlen]) ▸ List.mem_map_of_mem q)
  ·exact List.mem_append_right _ (List.mem_map_of_mem q)
 ·rw [List.map_append, zBT e.names vs (by rw [fo.len, hlen])]; exact fo.nd
theorem zLl {w : World} {F' : Fm} {W Wc : Wd} {loc₀ : List (Str × SV)} {led₁ : List SO} {h₁ : Heap} (ez : Wc.fz = []) (eL : W.ads.length = led₁.length) (R : Rep w F' (wa W Wc) (zCc [] loc₀ led₁) h₁) : Rep w F' W ⟨loc₀, led₁⟩ h₁ := by
 have h1 := zCN R
 rw [Wd.ads_append, List.length_append, eL] at h1
 have h2 : (zCc [] loc₀ led₁).led.length = led₁.length := rfl
 rw [h2] at h1
 obtain ⟨a, z⟩ := Wc
 have e1 : a = [] := List.eq_nil_of_length_eq_zero (by dsimp only at h1; lia)
 have e2 : z = [] := ez
 subst e1 e2
 have e3 : (wa W (⟨[], []⟩ : Wd)) = W := Wd.append_nil W
 rw [e3] at R
 exact R
noncomputable def SubK (st : St) (led₁ led₂ : List SO) (k : Kt) : Kt := fun r st' => ∃ x y led', (r = .ret x ∨ (r = .next ∧ x = .none)) ∧ SvT led₁.length st'.led x y ∧ SosT led₁.length st'.led (st'.led.take led₁.length) led' ∧ k (.v y) { loc := st.loc, led := led' ++ led₂ }
theorem zOA {svs : List SV} {vs : List Value} {e : FnE} {A : Around} {k : Kt} {Q : CR → Shared → Prop} {Rr : Result → Shared → Prop} {led₁ led₂ : List SO} (fo : FnOk C.K e) (ok : FmOk C F)
  (hA : C.known = true → A.frames = some F.stk) (hh : A.handled = none) (hd : A.depth < recursionLimit) (R : Rep w F ads st s.heap) (D : DenL F.B ads svs vs) (hlen : vs.length = e.na)
  (hled : st.led = led₁ ++ led₂) (hol : okL led₁.length led₁) (hov : ∀ x ∈ svs, okV led₁.length x) (hcn : e.cells.Nodup)
  (h : ∀ (F' : Fm) (W : Wd) (E' : Value → Shared → Prop) (Q' : CR → Shared → Prop) (s₁ : Shared), FmOk C F' → F'.A = A.deeper F'.env → F'.sc = e.scope → F'.stk = F'.env :: F.stk → Rep w F' W (zCc e.cells (zipS e.names svs ++ zCE e.more) led₁) s₁.heap →
   Then w F' W s₁ (SubK st led₁ led₂ k) Q' → wpAny (model prog w) F'.A (execs e.body F'.env) (fun f s' => Q' (.fl f) s') E' s₁)
  (T : Then w F ads s k Q) (hR : ∀ v s', Q (.v v) s' → Rr (.ok (.ret v)) s') :
  codeAny (model prog w) A (.call (.ref e.fa) ⟨vs, []⟩) Rr s := by
 refine zFb fo ok hA hh hd R D hlen hled hol hov hcn fun F' W Wc h₁ t ok' eA eS eB eT eZ eL R' back bv => ?_
 refine h F' (wa W Wc) _ (fun c s' => match c with
   | .fl f => Rr (.ok (.ret (match f with | .ret v => v | _ => .none))) s'
   | _ => False) _ ok' eA eS eT.1 R' ?_
 intro r st' more c s' hk R1 x dr
 obtain ⟨y, y', led', hr, sv, so, hk⟩ := hk
 rw [← eL] at sv so
 rw [Wd.append_assoc] at R1 dr
 obtain ⟨z, R2, den⟩ := zEw (st' := ⟨[], led'⟩) ok' R1 ⟨(fun x y h => nomatch h), so⟩
 have x' : Nx F s s' := (Nx.mk' s h₁ t).trans (show NxB F.quiet _ s' by rw [← eT.2.1]; exact x)
 have fin : ∀ u, Den F'.B (wa W (wa Wc more)) y u → Q (.v u) s' := fun u du => by
  refine T (.v y') _ ⟨[], z⟩ (.v u) s' hk (back z _ _ _ R2) x' ?_
  have := den y y' u sv du
  rw [eB] at this
  exact bv z _ _ this
 rcases hr with rfl | ⟨rfl, rfl⟩
 ·cases c with
  | fl fl => cases fl with
   | ret u => exact hR _ _ (fin u dr)
   | _ => exact dr.elim
  | _ => exact dr.elim
 ·cases c with
  | fl fl => cases fl with
   | next => exact hR _ _ (fin .none rfl)
   | _ => exact dr.elim
  | _ => exact dr.elim
theorem zBS {n : Nat} {svs : List SV} {vs : List Value} {e : FnE} {A : Around} {k : Kt} {Q : CR → Shared → Prop} {Rr : Result → Shared → Prop} {led₁ led₂ : List SO} (ih : zBN w C n) (fo : FnOk C.K e) (ok : FmOk C F)
  (hA : C.known = true → A.frames = some F.stk) (hh : A.handled = none) (hd : A.depth + 1 + n < recursionLimit) (hu : A.units + 3 + 8 * n < cLine) (R : Rep w F ads st s.heap) (D : DenL F.B ads svs vs) (hlen : vs.length = e.na)
  (hled : st.led = led₁ ++ led₂) (hol : okL led₁.length led₁) (hov : ∀ x ∈ svs, okV led₁.length x) (hcn : e.cells.Nodup)
  (h : ev C n e.scope.names (.sts e.body) (zCc e.cells (zipS e.names svs ++ zCE e.more) led₁) (SubK st led₁ led₂ k))
  (T : Then w F ads s k Q) (hR : ∀ v s', Q (.v v) s' → Rr (.ok (.ret v)) s') :
  codeAny (model prog w) A (.call (.ref e.fa) ⟨vs, []⟩) Rr s :=
 zOA fo ok hA hh (by lia) R D hlen hled hol hov hcn (fun F' W E' Q' s₁ ok' eA eS _ R' T' => ih F' E' (.sts e.body) _ _ W s₁ Q' ok' (by rw [eA]; show A.depth + 1 + n < _; lia) (by rw [eA]; show A.units + 3 + 8 * n < _; lia) (by rw [eS]; exact h) R' T') T hR
theorem zPv {h' : Heap} : ∀ {lw : List (Addr × Obj)}, (∀ p ∈ lw, ∃ sl, h'.get? p.1 = some { p.2 with slots := sl }) → ∃ lw', Ups lw lw' ∧ ∀ p ∈ lw', h'.get? p.1 = some p.2
 | [], _ => ⟨[], .nil, fun _ h => by cases h⟩
 | (a, o) :: r, hp => by
  obtain ⟨sl, e⟩ := hp (a, o) (.head _)
  obtain ⟨lw', u, q⟩ := zPv (fun p h => hp p (.tail _ h))
  exact ⟨(a, { o with slots := sl }) :: lw', .cons u, fun p h => by
   rcases List.mem_cons.mp h with rfl | h
   ·exact e
   ·exact q p h⟩
theorem zEJ {h base : Heap} : ∀ {l : List Env}, (∀ env ∈ l, env.scope.kind ≠ .module ∧ ∃ L o, env.frame = some L ∧ base.get? L = none ∧ h.get? L = some o ∧ ∀ vs, o.data ≠ .fields vs) → h.FunFrames base l
 | [], _ => trivial
 | env :: r, q => ⟨(q env (.head _)).1, (q env (.head _)).2, zEJ fun x hx => q x (.tail _ hx)⟩
theorem zMV {h : Heap} {e : Addr} {cls : Value} {args : List Value} {E : Value → Shared → Prop} {Q : Unit → Shared → Prop} {M : Model} {outer : List Env} (hst : F.stk = F.env :: outer) (hkn : C.known = true) (ok : FmOk C F) (R : Rep w F ads st h) (hx : Heap.MadeExcOf h s.heap e cls args)
  (hQ : ∀ h', Rep w F ads st h' → (∃ o, h'.get? e = some o ∧ o.cls = cls) → Q () { s with heap := h' }) : wpAny M F.A (leaving F.env (.ref e)) Q E s := by
 obtain ⟨m, news, lw, X⟩ := R
 obtain ⟨oL, es, ep, hL, hLd, hLk, hLf⟩ := X.fr.ns
 have lowk := ok.low.ups X.ups
 have inlw : ∀ p ∈ lw, p ∈ news ++ (ads.fz ++ lw) := fun p hp => List.mem_append_right _ (List.mem_append_right _ hp)
 let keys : List Addr := F.L :: lw.map (·.1)
 have hl : h.FunFrames (hideAll h keys) F.stk := zEJ fun env he => by
  obtain ⟨a1, L', a2, a3⟩ := lowk.env env he
  rcases a3 with rfl | a3
  ·exact ⟨a1, F.L, oL, a2, hideAll_none _ (.head _), hL, fun vs q => by rw [hLd] at q; cases q⟩
  ·obtain ⟨p, hp, rfl⟩ := List.mem_map.mp a3
   exact ⟨a1, p.1, p.2, a2, hideAll_none _ (.tail _ a3), (X.nw p (inlw p hp)).1, lowk.dat p hp⟩
 obtain ⟨_, L0, hf0, _⟩ := ok.low.env F.env (by rw [hst]; exact .head _)
 rw [hst] at hl
 refine wpAny_leaves_madeW (hst ▸ ok.stack hkn) hf0 (fun b o q => of_hideAll _ q) hl hx fun h' t x1 x2 x3 x4 => ?_
 have stays : ∀ b o, h.get? b = some o → b ∉ keys → h'.get? b = some o := fun b o q nb => x1.1 b o (hideAll_get _ q nb)
 have upto : h.UpToSlots h' := (Heap.UpToSlots.of_keeps hx.keeps).trans x4
 refine hQ h' ?_ x1.there
 obtain ⟨lw', u, hu⟩ := zPv (h' := h') (lw := lw) fun p hp => upto p.1 p.2 (X.nw p (inlw p hp)).1 (lowk.dat p hp)
 have pmA : (news ++ (ads.fz ++ lw)).Perm (lw ++ (news ++ ads.fz)) := by
  rw [← List.append_assoc]; exact List.perm_append_comm
 have ndP := (pmA.map (·.1)).nodup_iff.mp X.nd
 rw [List.map_append] at ndP
 have ndP' := List.nodup_append.mp ndP
 have nmN : ∀ p ∈ news ++ ads.fz, p.1 ∉ keys := fun p hp q => by
  rcases List.mem_cons.mp q with q | q
  ·exact (X.nw p (pmA.mem_iff.mpr (List.mem_append_right _ hp))).2.1 q
  ·exact ndP'.2.2 _ q _ (List.mem_map_of_mem hp) rfl
 refine ⟨m, news, lw', ⟨upto.ns X.fr.ns, fun b o q => stays b o (X.fr.keep b o q) fun hm => ?_, X.fr.above⟩, fun p hp => ?_, X.loc, X.led, ?_, X.ups.trans u⟩
 ·rcases List.mem_cons.mp hm with rfl | hm
  ·exact absurd (Heap.lt_size q) (Nat.not_lt.mpr X.fr.above)
  ·obtain ⟨p, hp, rfl⟩ := List.mem_map.mp hm
   rw [(X.nw p (inlw p hp)).2.2] at q; cases q
 ·have hp' : p ∈ news ++ ads.fz ∨ p ∈ lw' := by
   rw [← List.append_assoc] at hp; exact List.mem_append.mp hp
  rcases hp' with q | q
  ·have z := X.nw p (pmA.mem_iff.mpr (List.mem_append_right _ q))
   exact ⟨stays _ _ z.1 (nmN p q), z.2⟩
  ·have : p.1 ∈ lw.map (·.1) := u.keys ▸ List.mem_map_of_mem q
   obtain ⟨p', hp', e'⟩ := List.mem_map.mp this
   have z' := X.nw p' (inlw p' hp')
   rw [e'] at z'
   exact ⟨hu p q, z'.2⟩
 ·have e1 : (news ++ (ads.fz ++ lw')).map (·.1) = (news ++ (ads.fz ++ lw)).map (·.1) := by
   simp only [List.map_append, u.keys]
  rw [e1]; exact X.nd
end
section
variable {w : World} {C : Cf} {s : Shared}
theorem zIQ {e : FnE} {A : Around} {Rr : Result → Shared → Prop} {svs : List SV} {vs : List Value} (q : Bool) (hid : List (Addr × Obj)) (W : Wd) (led : List SO) (fo : FnOk C.K e) (hcell : ∀ x ∈ e.scope.names, x.2 ≠ .cell)
  (hw : ∀ p ∈ hid, s.heap.get? p.1 = some p.2) (nd : (hid.map (·.1)).Nodup) (hz : W.fz = []) (hled : LedR w.params (hideAll s.heap (hid.map (·.1))) W W.ads led hid)
  (X : C.K.In (hideAll s.heap (hid.map (·.1)))) (G : GlobOk (hideAll s.heap (hid.map (·.1)))) (hA : C.known = true → A.frames = some [] ∧ q = false) (hh : A.handled = none) (hd : A.depth < recursionLimit)
  (D : DenL (hideAll s.heap (hid.map (·.1))) W svs vs) (hlen : vs.length = e.na)
  (h : ∀ (F' : Fm) (h₁ : Heap) (t : Nat), FmOk C F' → F'.A = A.deeper F'.env → F'.sc = e.scope → F'.h₀ = hideAll s.heap (hid.map (·.1)) → F'.B = F'.h₀ → F'.quiet = q → Rep w F' W ⟨zipS e.names svs ++ zCE e.more, led⟩ h₁ →
   wpAny (model prog w) F'.A (execs e.body F'.env) (fun f s' => Rr (.ok (.ret (match f with | .ret v => v | _ => .none))) s')
    (fun x s' => wpAny (model prog w) F'.A (leaving F'.env x) (fun _ s'' => Rr (.error x) s'') (fun x' s'' => Rr (.error x') s'') s') { s with heap := h₁, toks := t }) :
  codeAny (model prog w) A (.call (.ref e.fa) ⟨vs, []⟩) Rr s := by
 have nocell : ∀ x, e.scope.names.lookup x = some .cell → (NameKind.cell ≠ NameKind.cell) := fun x hx => hcell _ (mem_of_lookup hx)
 have floc : ∀ x ∈ e.names ++ e.more.map (·.1), e.scope.names.lookup x = some .local := fun x hx => (fo.loc x hx).resolve_right fun q => nocell x q.1 rfl
 obtain ⟨oc, od, osl, fd, g1, g2, g3, g4, g5, g6, g7⟩ := fo.at_
 have sub : ∀ b o, (hideAll s.heap (hid.map (·.1))).get? b = some o → s.heap.get? b = some o := fun b o e => of_hideAll _ e
 have XK : C.K.In s.heap := X.keeps sub
 have GK : GlobOk s.heap := G.keeps sub
 refine (codeAny_call_def (body := e.body) (binds := zipV e.names vs ++ e.more) (by omega) (XK _ _ g1) rfl GK.lim (by rw [g5, g6]; exact codeRec_of XK fo.code) g2 (g7 s vs XK hlen)
  (by rw [g3]; exact hcell) (by
   rw [g3]
   intro x hx
   refine floc x.1 ?_
   rcases List.mem_append.mp hx with q | q
   ·exact List.mem_append_left _ (zBT e.names vs (by rw [fo.len, hlen]) ▸ List.mem_map_of_mem q)
   ·exact List.mem_append_right _ (List.mem_map_of_mem q)) (fun h₁ hns hk₁ => ?_) (by rw [g3]; exact fo.co) (by rw [g3]; exact fo.gen) (by rw [g3]; exact fo.kind))
 rw [g4]
 let en : Env := envOf e.qual e.scope s.heap.objs.size e.fa e.cd
 let F' : Fm := ⟨hideAll s.heap (hid.map (·.1)), hideAll s.heap (hid.map (·.1)), s.heap.objs.size, en, A.deeper en, [en], [], q⟩
 have low' : LowOk [en] s.heap.objs.size [] := ⟨fun env he => by
  rw [List.mem_singleton.mp he]
  exact ⟨by show e.scope.kind ≠ _; rw [fo.kind]; decide, s.heap.objs.size, rfl, .inl rfl⟩, fun p hp => nomatch hp⟩
 have ok' : FmOk C F' := ⟨X, G, fun b o e => e, fo.kind, hh, fun k => Around.frames_deeper (hA k).1, fun k => (hA k).2, low', rfl, rfl, rfl, fun _ _ => rfl, fun x hx => absurd rfl (nocell x hx)⟩
 have nd' : ((zipV e.names vs ++ e.more).map (·.1)).Nodup := by
  rw [List.map_append, zBT e.names vs (by rw [fo.len, hlen])]; exact fo.nd
 have R' : Rep w F' W ⟨zipS e.names svs ++ zCE e.more, led⟩ h₁ := by
  refine ⟨_, hid, [], ⟨hns, fun b o q => hk₁ b o (of_hideAll _ q), Nat.le_of_eq (hideAll_size _ _)⟩, fun p hp => ?_, ?_, hled, ?_, Ups.refl _⟩
  ·rw [hz, List.nil_append, List.append_nil] at hp
   exact ⟨hk₁ _ _ (hw p hp), Nat.ne_of_lt (Heap.lt_size (hw p hp)), hideAll_none _ (List.mem_map_of_mem hp)⟩
  ·intro x sv hx
   obtain ⟨v, a, b⟩ := zMx (fun y hy => fo.more y hy _ W) D hx
   exact ⟨v, zBX nd' a, b⟩
  ·rw [hz, List.nil_append, List.append_nil]; exact nd
 exact h F' h₁ _ ok' rfl rfl rfl rfl rfl R'
end
set_option backward.match.sparseCases false
noncomputable def stAt : Nat → List Stmt → Stmt
 | 0, s :: _ => s
 | n + 1, _ :: r => stAt n r
 | _, [] => .Pass default
noncomputable def zAK : Stmt → List Stmt
 | .ClassDef _ _ _ b _ _ _ _ _ _ _ => b
 | _ => []
noncomputable def zAE : Stmt → List Stmt
 | .FunctionDef _ _ b _ _ _ _ _ _ _ => b
 | _ => []
noncomputable def zAB : Stmt → Scope
 | .FunctionDef _ _ _ _ _ _ s _ _ _ => s
 | _ => default
noncomputable def zBJ : Stmt → Arguments
 | .FunctionDef _ a _ _ _ _ _ _ _ _ => a
 | _ => default
noncomputable def fnOf (name qual : Str) (ps : Arguments) (b : List Stmt) (sc : Scope) (df kdf doc md : Value) (ann : Option Addr) (cd ct : Value) : FuncData :=
 { name := name, qualname := qual, params := ps, body := .stmts b, scope := sc, globals := mainGlobals, closure := [], defaults := df, kwdefaults := kdf, doc := doc, pyModule := md, annotations := ann, code := cd, closureTuple := ct, builtins := builtinsNs }
noncomputable def o3 (P : Params) : Obj := ⟨(.type "dict"), none, (.dict (List.toArray [⟨PyData.keyHash P "__name__", .str "__name__" 165, (.str "law_mq0411_01" 1274)⟩, ⟨PyData.keyHash P "__doc__", .str "__doc__" 166, .none⟩, ⟨PyData.keyHash P "__package__", .str "__package__" 167, .none⟩, ⟨PyData.keyHash P "__loader__", .str "__loader__" 168, (.builtin "__main__.__loader__#opaque")⟩, ⟨PyData.keyHash P "__spec__", .str "__spec__" 169, .none⟩, ⟨PyData.keyHash P "__annotations__", .str "__annotations__" 170, (.ref 6)⟩, ⟨PyData.keyHash P "__builtins__", .str "__builtins__" 171, (.ref 4)⟩, ⟨PyData.keyHash P "__file__", .str "__file__" 173, (.str "/claim/cut.py" 172)⟩, ⟨PyData.keyHash P "__cached__", .str "__cached__" 174, .none⟩, ⟨PyData.keyHash P "_sre", .str "_sre" 275, (.ref 12)⟩, ⟨PyData.keyHash P "deque", .str "deque" 317, (.type "collections.deque")⟩, ⟨PyData.keyHash P "_wall", .str "_wall" 330, (.ref 44)⟩, ⟨PyData.keyHash P "_twin_re_1", .str "_twin_re_1" 370, (.ref 49)⟩, ⟨PyData.keyHash P "_whence", .str "_whence" 380, (.ref 56)⟩, ⟨PyData.keyHash P "_index", .str "_index" 388, (.ref 63)⟩, ⟨PyData.keyHash P "UnsupportedOperation", .str "UnsupportedOperation" 410, (.ref 73)⟩, ⟨PyData.keyHash P "IOBase", .str "IOBase" 442, (.ref 93)⟩, ⟨PyData.keyHash P "BufferedIOBase", .str "BufferedIOBase" 460, (.ref 108)⟩, ⟨PyData.keyHash P "TextIOBase", .str "TextIOBase" 478, (.ref 120)⟩, ⟨PyData.keyHash P "BytesIO", .str "BytesIO" 740, (.ref 350)⟩, ⟨PyData.keyHash P "StringIO", .str "StringIO" 1027, (.ref 597)⟩, ⟨PyData.keyHash P "_kind", .str "_kind" 1038, (.ref 606)⟩, ⟨PyData.keyHash P "_fspath", .str "_fspath" 1047, (.ref 613)⟩, ⟨PyData.keyHash P "_check_arg_types", .str "_check_arg_types" 1057, (.ref 620)⟩, ⟨PyData.keyHash P "isabs", .str "isabs" 1064, (.ref 627)⟩, ⟨PyData.keyHash P "join", .str "join" 1075, (.ref 751)⟩, ⟨PyData.keyHash P "join_path", .str "join_path" 1076, (.ref 634)⟩, ⟨PyData.keyHash P "dirname", .str "dirname" 1086, (.ref 641)⟩, ⟨PyData.keyHash P "shlex", .str "shlex" 1227, (.ref 732)⟩, ⟨PyData.keyHash P "split", .str "split" 1237, (.ref 744)⟩, ⟨PyData.keyHash P "join_shlex", .str "join_shlex" 1245, (.ref 751)⟩, ⟨PyData.keyHash P "_find_unsafe", .str "_find_unsafe" 1247, (.ref 752)⟩, ⟨PyData.keyHash P "quote", .str "quote" 1254, (.ref 759)⟩, ⟨PyData.keyHash P "parse_keqv_list", .str "parse_keqv_list" 1267, (.ref 766)⟩, ⟨PyData.keyHash P "parse_http_list", .str "parse_http_list" 1273, (.ref 771)⟩, ⟨PyData.keyHash P "_law_text", .str "_law_text" 1285, (.ref 778)⟩, ⟨PyData.keyHash P "_law_tree", .str "_law_tree" 1297, (.ref 785)⟩, ⟨PyData.keyHash P "_law_marked", .str "_law_marked" 1303, (.ref 790)⟩, ⟨PyData.keyHash P "_law_written", .str "_law_written" 1309, (.ref 795)⟩, ⟨PyData.keyHash P "_law_word", .str "_law_word" 1315, (.ref 800)⟩, ⟨PyData.keyHash P "_law_read", .str "_law_read" 1321, (.ref 805)⟩, ⟨PyData.keyHash P "law", .str "law" 1327, (.ref 810)⟩]) 42), #[]⟩
noncomputable def o4 (P : Params) : Obj := ⟨(.type "module"), (some 0), .plain, #[]⟩
noncomputable def o48 (P : Params) : Obj := ⟨(.type "tuple"), none, (.seq #[(.int (14) 0), (.int (17) 0), (.int (4) 0), (.int (1) 0), (.int (1) 0), (.int (21) 0), (.int (9) 0), (.int (0) 0), (.int (604043296) 0), (.int (1) 0), (.int (0) 0), (.int (0) 0), (.int (0) 0), (.int (0) 0), (.int (0) 0), (.int (8) 0), (.int (4) 0), (.int (0) 0), (.int (13) 0), (.int (14) 0), (.int (21) 0), (.int (9) 0), (.int (0) 0), (.int (604043296) 0), (.int (1) 0), (.int (0) 0), (.int (0) 0), (.int (0) 0), (.int (0) 0), (.int (0) 0), (.int (8) 0), (.int (4) 0), (.int (0) 0), (.int (1) 0)] 0), #[]⟩
noncomputable def o49 (P : Params) : Obj := ⟨(.type "re.Pattern"), none, (.fields #[(.str "[^\\w@%+=:,./-]" 332), (.int (256) 369), (.int (0) 0), .none, .none, (.ref 48), (.int (0) 0)]), #[]⟩
noncomputable def o62 (P : Params) : Obj := ⟨(.type "code"), none, (.fields #[(.str "_index" 381), (.str "_index" 382), (.str "/claim/cut.py" 383), (.int (13) 0), (.int (2) 0), (.int (0) 0), (.int (0) 0), (.int (3) 0), (.ref 57), (.bool true), (.int (318) 0), (.ref 58), .none, (.ref 59), (.ref 60), (.ref 61), (.int (386) 0), (.int (13) 0), (.str "/claim/cut.py" 387)]), #[]⟩
noncomputable def o63 (P : Params) : Obj := ⟨(.type "function"), none, (.func (fnOf "_index" "_index" (zBJ (stAt 6 Challenge.pw_mq0411_01.main.body)) (zAE (stAt 6 Challenge.pw_mq0411_01.main.body)) (zAB (stAt 6 Challenge.pw_mq0411_01.main.body)) .none .none .none (.str "io" 371) none (.ref 62) .none)), #[]⟩
noncomputable def o89 (P : Params) : Obj := ⟨(.type "code"), none, (.fields #[(.str "__new__" 425), (.str "IOBase.__new__" 426), (.str "/claim/cut.py" 427), (.int (25) 0), (.int (1) 0), (.int (1) 0), (.int (0) 0), (.int (15) 0), (.ref 84), (.bool true), (.int (318) 0), (.ref 85), .none, (.ref 86), (.ref 87), (.ref 88), (.int (431) 0), (.int (25) 0), (.str "/claim/cut.py" 432)]), #[]⟩
noncomputable def o90 (P : Params) : Obj := ⟨(.type "function"), none, (.func (fnOf "__new__" "IOBase.__new__" (zBJ (stAt 1 (zAK (stAt 8 Challenge.pw_mq0411_01.main.body)))) (zAE (stAt 1 (zAK (stAt 8 Challenge.pw_mq0411_01.main.body)))) (zAB (stAt 1 (zAK (stAt 8 Challenge.pw_mq0411_01.main.body)))) .none .none .none (.str "io" 371) none (.ref 89) .none)), #[]⟩
noncomputable def o92 (P : Params) : Obj := ⟨(.type "dict"), none, (.dict (List.toArray [⟨PyData.keyHash P "__module__", .str "__module__" 418, (.str "io" 423)⟩, ⟨PyData.keyHash P "__firstlineno__", .str "__firstlineno__" 422, (.int (22) 421)⟩, ⟨PyData.keyHash P "__new__", .str "__new__" 433, (.ref 94)⟩, ⟨PyData.keyHash P "__static_attributes__", .str "__static_attributes__" 434, (.ref 91)⟩, ⟨PyData.keyHash P "__dict__", .str "__dict__" 437, (.ref 95)⟩, ⟨PyData.keyHash P "__weakref__", .str "__weakref__" 439, (.ref 96)⟩, ⟨PyData.keyHash P "__doc__", .str "__doc__" 440, .none⟩]) 4), #[]⟩
noncomputable def o93 (P : Params) : Obj := ⟨(.type "type"), none, (.cls { name := "IOBase", bases := [(.type "object")], mro := [(.ref 93), (.type "object")], ns := 92, qualname := "IOBase", hasDict := true, slotNames := [], subclasses := [(.ref 108), (.ref 120)], abstract := false, collection := none, hasDel := false }), #[none, none, (some (.str "IOBase" 411)), (some (.str "IOBase" 419)), (some .none), (some (.bool true))]⟩
noncomputable def o94 (P : Params) : Obj := ⟨(.type "staticmethod"), none, (.fields #[(.ref 90)]), #[]⟩
noncomputable def o119 (P : Params) : Obj := ⟨(.type "dict"), none, (.dict (List.toArray [⟨PyData.keyHash P "__module__", .str "__module__" 468, (.str "io" 473)⟩, ⟨PyData.keyHash P "__firstlineno__", .str "__firstlineno__" 472, (.int (31) 471)⟩, ⟨PyData.keyHash P "__static_attributes__", .str "__static_attributes__" 475, (.ref 118)⟩, ⟨PyData.keyHash P "__doc__", .str "__doc__" 476, .none⟩]) 2), #[]⟩
noncomputable def o120 (P : Params) : Obj := ⟨(.type "type"), none, (.cls { name := "TextIOBase", bases := [(.ref 93)], mro := [(.ref 120), (.ref 93), (.type "object")], ns := 119, qualname := "TextIOBase", hasDict := true, slotNames := [], subclasses := [(.ref 597)], abstract := false, collection := none, hasDel := false }), #[(some (.ref 111)), none, (some (.str "TextIOBase" 461)), (some (.str "TextIOBase" 469)), (some .none), (some (.bool true))]⟩
noncomputable def o350 (P : Params) : Obj := ⟨(.type "type"), none, (.cls { name := "BytesIO", bases := [(.ref 108)], mro := [(.ref 350), (.ref 108), (.ref 93), (.type "object")], ns := 349, qualname := "BytesIO", hasDict := true, slotNames := [], subclasses := [], abstract := false, collection := none, hasDel := false }), #[(some (.ref 123)), none, (some (.str "BytesIO" 479)), (some (.str "BytesIO" 487)), (some .none), (some (.bool true))]⟩
noncomputable def o360 (P : Params) : Obj := ⟨(.type "tuple"), none, (.seq #[(.str "" 755), (.str "\n" 756)] 0), #[]⟩
noncomputable def o366 (P : Params) : Obj := ⟨(.type "code"), none, (.fields #[(.str "__init__" 757), (.str "StringIO.__init__" 758), (.str "/claim/cut.py" 759), (.int (206) 0), (.int (3) 0), (.int (0) 0), (.int (0) 0), (.int (3) 0), (.ref 361), (.bool true), (.int (318) 0), (.ref 362), .none, (.ref 363), (.ref 364), (.ref 365), (.int (763) 0), (.int (206) 0), (.str "/claim/cut.py" 764)]), #[]⟩
noncomputable def o367 (P : Params) : Obj := ⟨(.type "function"), none, (.func (fnOf "__init__" "StringIO.__init__" (zBJ (stAt 1 (zAK (stAt 12 Challenge.pw_mq0411_01.main.body)))) (zAE (stAt 1 (zAK (stAt 12 Challenge.pw_mq0411_01.main.body)))) (zAB (stAt 1 (zAK (stAt 12 Challenge.pw_mq0411_01.main.body)))) (.ref 360) .none .none (.str "io" 371) none (.ref 366) .none)), #[]⟩
noncomputable def o373 (P : Params) : Obj := ⟨(.type "code"), none, (.fields #[(.str "__translated" 766), (.str "StringIO.__translated" 767), (.str "/claim/cut.py" 768), (.int (219) 0), (.int (2) 0), (.int (0) 0), (.int (0) 0), (.int (3) 0), (.ref 368), (.bool true), (.int (318) 0), (.ref 369), .none, (.ref 370), (.ref 371), (.ref 372), (.int (772) 0), (.int (219) 0), (.str "/claim/cut.py" 773)]), #[]⟩
noncomputable def o374 (P : Params) : Obj := ⟨(.type "function"), none, (.func (fnOf "__translated" "StringIO.__translated" (zBJ (stAt 2 (zAK (stAt 12 Challenge.pw_mq0411_01.main.body)))) (zAE (stAt 2 (zAK (stAt 12 Challenge.pw_mq0411_01.main.body)))) (zAB (stAt 2 (zAK (stAt 12 Challenge.pw_mq0411_01.main.body)))) .none .none .none (.str "io" 371) none (.ref 373) .none)), #[]⟩
noncomputable def o380 (P : Params) : Obj := ⟨(.type "code"), none, (.fields #[(.str "__check" 775), (.str "StringIO.__check" 776), (.str "/claim/cut.py" 777), (.int (227) 0), (.int (1) 0), (.int (0) 0), (.int (0) 0), (.int (3) 0), (.ref 375), (.bool true), (.int (318) 0), (.ref 376), .none, (.ref 377), (.ref 378), (.ref 379), (.int (779) 0), (.int (227) 0), (.str "/claim/cut.py" 780)]), #[]⟩
noncomputable def o381 (P : Params) : Obj := ⟨(.type "function"), none, (.func (fnOf "__check" "StringIO.__check" (zBJ (stAt 3 (zAK (stAt 12 Challenge.pw_mq0411_01.main.body)))) (zAE (stAt 3 (zAK (stAt 12 Challenge.pw_mq0411_01.main.body)))) (zAB (stAt 3 (zAK (stAt 12 Challenge.pw_mq0411_01.main.body)))) .none .none .none (.str "io" 371) none (.ref 380) .none)), #[]⟩
noncomputable def o536 (P : Params) : Obj := ⟨(.type "tuple"), none, (.seq #[(.int (-1) 948)] 0), #[]⟩
noncomputable def o542 (P : Params) : Obj := ⟨(.type "code"), none, (.fields #[(.str "read" 949), (.str "StringIO.read" 950), (.str "/claim/cut.py" 951), (.int (349) 0), (.int (2) 0), (.int (2) 0), (.int (0) 0), (.int (3) 0), (.ref 537), (.bool true), (.int (318) 0), (.ref 538), .none, (.ref 539), (.ref 540), (.ref 541), (.int (956) 0), (.int (349) 0), (.str "/claim/cut.py" 957)]), #[]⟩
noncomputable def o543 (P : Params) : Obj := ⟨(.type "function"), none, (.func (fnOf "read" "StringIO.read" (zBJ (stAt 25 (zAK (stAt 12 Challenge.pw_mq0411_01.main.body)))) (zAE (stAt 25 (zAK (stAt 12 Challenge.pw_mq0411_01.main.body)))) (zAB (stAt 25 (zAK (stAt 12 Challenge.pw_mq0411_01.main.body)))) (.ref 536) .none .none (.str "io" 371) none (.ref 542) .none)), #[]⟩
noncomputable def o565 (P : Params) : Obj := ⟨(.type "code"), none, (.fields #[(.str "__iter__" 979), (.str "StringIO.__iter__" 980), (.str "/claim/cut.py" 981), (.int (373) 0), (.int (1) 0), (.int (0) 0), (.int (0) 0), (.int (3) 0), (.ref 560), (.bool true), (.int (318) 0), (.ref 561), .none, (.ref 562), (.ref 563), (.ref 564), (.int (983) 0), (.int (373) 0), (.str "/claim/cut.py" 984)]), #[]⟩
noncomputable def o566 (P : Params) : Obj := ⟨(.type "function"), none, (.func (fnOf "__iter__" "StringIO.__iter__" (zBJ (stAt 28 (zAK (stAt 12 Challenge.pw_mq0411_01.main.body)))) (zAE (stAt 28 (zAK (stAt 12 Challenge.pw_mq0411_01.main.body)))) (zAB (stAt 28 (zAK (stAt 12 Challenge.pw_mq0411_01.main.body)))) .none .none .none (.str "io" 371) none (.ref 565) .none)), #[]⟩
noncomputable def o572 (P : Params) : Obj := ⟨(.type "code"), none, (.fields #[(.str "__next__" 986), (.str "StringIO.__next__" 987), (.str "/claim/cut.py" 988), (.int (377) 0), (.int (1) 0), (.int (0) 0), (.int (0) 0), (.int (3) 0), (.ref 567), (.bool true), (.int (318) 0), (.ref 568), .none, (.ref 569), (.ref 570), (.ref 571), (.int (991) 0), (.int (377) 0), (.str "/claim/cut.py" 992)]), #[]⟩
noncomputable def o573 (P : Params) : Obj := ⟨(.type "function"), none, (.func (fnOf "__next__" "StringIO.__next__" (zBJ (stAt 29 (zAK (stAt 12 Challenge.pw_mq0411_01.main.body)))) (zAE (stAt 29 (zAK (stAt 12 Challenge.pw_mq0411_01.main.body)))) (zAB (stAt 29 (zAK (stAt 12 Challenge.pw_mq0411_01.main.body)))) .none .none .none (.str "io" 371) none (.ref 572) .none)), #[]⟩
noncomputable def o596 (P : Params) : Obj := ⟨(.type "dict"), none, (.dict (List.toArray [⟨PyData.keyHash P "__module__", .str "__module__" 748, (.str "_io" 753)⟩, ⟨PyData.keyHash P "__firstlineno__", .str "__firstlineno__" 752, (.int (203) 751)⟩, ⟨PyData.keyHash P "__init__", .str "__init__" 765, (.ref 367)⟩, ⟨PyData.keyHash P "_StringIO__translated", .str "_StringIO__translated" 774, (.ref 374)⟩, ⟨PyData.keyHash P "_StringIO__check", .str "_StringIO__check" 781, (.ref 381)⟩, ⟨PyData.keyHash P "_StringIO__check_dot", .str "_StringIO__check_dot" 788, (.ref 388)⟩, ⟨PyData.keyHash P "_StringIO__line", .str "_StringIO__line" 803, (.ref 395)⟩, ⟨PyData.keyHash P "closed", .str "closed" 811, (.ref 403)⟩, ⟨PyData.keyHash P "line_buffering", .str "line_buffering" 819, (.ref 411)⟩, ⟨PyData.keyHash P "newlines", .str "newlines" 827, (.ref 419)⟩, ⟨PyData.keyHash P "encoding", .str "encoding" 835, (.ref 427)⟩, ⟨PyData.keyHash P "errors", .str "errors" 843, (.ref 435)⟩, ⟨PyData.keyHash P "close", .str "close" 850, (.ref 442)⟩, ⟨PyData.keyHash P "__enter__", .str "__enter__" 857, (.ref 449)⟩, ⟨PyData.keyHash P "__exit__", .str "__exit__" 865, (.ref 456)⟩, ⟨PyData.keyHash P "readable", .str "readable" 872, (.ref 463)⟩, ⟨PyData.keyHash P "writable", .str "writable" 879, (.ref 470)⟩, ⟨PyData.keyHash P "seekable", .str "seekable" 886, (.ref 477)⟩, ⟨PyData.keyHash P "isatty", .str "isatty" 893, (.ref 484)⟩, ⟨PyData.keyHash P "flush", .str "flush" 900, (.ref 491)⟩, ⟨PyData.keyHash P "fileno", .str "fileno" 907, (.ref 498)⟩, ⟨PyData.keyHash P "detach", .str "detach" 914, (.ref 505)⟩, ⟨PyData.keyHash P "getvalue", .str "getvalue" 921, (.ref 512)⟩, ⟨PyData.keyHash P "tell", .str "tell" 928, (.ref 519)⟩, ⟨PyData.keyHash P "seek", .str "seek" 938, (.ref 527)⟩, ⟨PyData.keyHash P "truncate", .str "truncate" 946, (.ref 535)⟩, ⟨PyData.keyHash P "read", .str "read" 958, (.ref 543)⟩, ⟨PyData.keyHash P "readline", .str "readline" 968, (.ref 551)⟩, ⟨PyData.keyHash P "readlines", .str "readlines" 978, (.ref 559)⟩, ⟨PyData.keyHash P "__iter__", .str "__iter__" 985, (.ref 566)⟩, ⟨PyData.keyHash P "__next__", .str "__next__" 993, (.ref 573)⟩, ⟨PyData.keyHash P "write", .str "write" 1005, (.ref 580)⟩, ⟨PyData.keyHash P "writelines", .str "writelines" 1013, (.ref 587)⟩, ⟨PyData.keyHash P "__repr__", .str "__repr__" 1020, (.ref 594)⟩, ⟨PyData.keyHash P "__static_attributes__", .str "__static_attributes__" 1024, (.ref 595)⟩, ⟨PyData.keyHash P "__doc__", .str "__doc__" 1025, .none⟩]) 2), #[]⟩
noncomputable def o597 (P : Params) : Obj := ⟨(.type "type"), none, (.cls { name := "StringIO", bases := [(.ref 120)], mro := [(.ref 597), (.ref 120), (.ref 93), (.type "object")], ns := 596, qualname := "StringIO", hasDict := true, slotNames := [], subclasses := [], abstract := false, collection := none, hasDel := false }), #[(some (.ref 353)), none, (some (.str "StringIO" 741)), (some (.str "StringIO" 749)), (some .none), (some (.bool true))]⟩
noncomputable def o649 (P : Params) : Obj := ⟨(.type "tuple"), none, (.seq #[.none, .none, (.bool false), (.bool false)] 0), #[]⟩
noncomputable def o655 (P : Params) : Obj := ⟨(.type "code"), none, (.fields #[(.str "__init__" 1101), (.str "shlex.__init__" 1102), (.str "/claim/cut.py" 1103), (.int (475) 0), (.int (5) 0), (.int (0) 0), (.int (0) 0), (.int (3) 0), (.ref 650), (.bool true), (.int (318) 0), (.ref 651), .none, (.ref 652), (.ref 653), (.ref 654), (.int (1110) 0), (.int (475) 0), (.str "/claim/cut.py" 1111)]), #[]⟩
noncomputable def o656 (P : Params) : Obj := ⟨(.type "function"), none, (.func (fnOf "__init__" "shlex.__init__" (zBJ (stAt 0 (zAK (stAt 22 Challenge.pw_mq0411_01.main.body)))) (zAE (stAt 0 (zAK (stAt 22 Challenge.pw_mq0411_01.main.body)))) (zAB (stAt 0 (zAK (stAt 22 Challenge.pw_mq0411_01.main.body)))) (.ref 649) .none .none (.str "cpy313.shlex" 1087) none (.ref 655) .none)), #[]⟩
noncomputable def o662 (P : Params) : Obj := ⟨(.type "code"), none, (.fields #[(.str "punctuation_chars" 1113), (.str "shlex.punctuation_chars" 1114), (.str "/claim/cut.py" 1115), (.int (516) 0), (.int (1) 0), (.int (0) 0), (.int (0) 0), (.int (3) 0), (.ref 657), (.bool true), (.int (318) 0), (.ref 658), .none, (.ref 659), (.ref 660), (.ref 661), (.int (1117) 0), (.int (516) 0), (.str "/claim/cut.py" 1118)]), #[]⟩
noncomputable def o663 (P : Params) : Obj := ⟨(.type "function"), none, (.func (fnOf "punctuation_chars" "shlex.punctuation_chars" (zBJ (stAt 1 (zAK (stAt 22 Challenge.pw_mq0411_01.main.body)))) (zAE (stAt 1 (zAK (stAt 22 Challenge.pw_mq0411_01.main.body)))) (zAB (stAt 1 (zAK (stAt 22 Challenge.pw_mq0411_01.main.body)))) .none .none .none (.str "cpy313.shlex" 1087) none (.ref 662) .none)), #[]⟩
noncomputable def o664 (P : Params) : Obj := ⟨(.type "property"), none, (.fields #[(.ref 663), .none, .none, .none, (.str "punctuation_chars" 1120), (.bool false)]), #[]⟩
noncomputable def o692 (P : Params) : Obj := ⟨(.type "code"), none, (.fields #[(.str "get_token" 1145), (.str "shlex.get_token" 1146), (.str "/claim/cut.py" 1147), (.int (543) 0), (.int (1) 0), (.int (0) 0), (.int (0) 0), (.int (3) 0), (.ref 687), (.bool true), (.int (318) 0), (.ref 688), .none, (.ref 689), (.ref 690), (.ref 691), (.int (1154) 0), (.int (543) 0), (.str "/claim/cut.py" 1155)]), #[]⟩
noncomputable def o693 (P : Params) : Obj := ⟨(.type "function"), none, (.func (fnOf "get_token" "shlex.get_token" (zBJ (stAt 5 (zAK (stAt 22 Challenge.pw_mq0411_01.main.body)))) (zAE (stAt 5 (zAK (stAt 22 Challenge.pw_mq0411_01.main.body)))) (zAB (stAt 5 (zAK (stAt 22 Challenge.pw_mq0411_01.main.body)))) .none .none .none (.str "cpy313.shlex" 1087) none (.ref 692) .none)), #[]⟩
noncomputable def o699 (P : Params) : Obj := ⟨(.type "code"), none, (.fields #[(.str "read_token" 1157), (.str "shlex.read_token" 1158), (.str "/claim/cut.py" 1159), (.int (570) 0), (.int (1) 0), (.int (0) 0), (.int (0) 0), (.int (3) 0), (.ref 694), (.bool true), (.int (318) 0), (.ref 695), .none, (.ref 696), (.ref 697), (.ref 698), (.int (1165) 0), (.int (570) 0), (.str "/claim/cut.py" 1166)]), #[]⟩
noncomputable def o700 (P : Params) : Obj := ⟨(.type "function"), none, (.func (fnOf "read_token" "shlex.read_token" (zBJ (stAt 6 (zAK (stAt 22 Challenge.pw_mq0411_01.main.body)))) (zAE (stAt 6 (zAK (stAt 22 Challenge.pw_mq0411_01.main.body)))) (zAB (stAt 6 (zAK (stAt 22 Challenge.pw_mq0411_01.main.body)))) .none .none .none (.str "cpy313.shlex" 1087) none (.ref 699) .none)), #[]⟩
noncomputable def o721 (P : Params) : Obj := ⟨(.type "code"), none, (.fields #[(.str "__iter__" 1185), (.str "shlex.__iter__" 1186), (.str "/claim/cut.py" 1187), (.int (717) 0), (.int (1) 0), (.int (0) 0), (.int (0) 0), (.int (3) 0), (.ref 716), (.bool true), (.int (318) 0), (.ref 717), .none, (.ref 718), (.ref 719), (.ref 720), (.int (1189) 0), (.int (717) 0), (.str "/claim/cut.py" 1190)]), #[]⟩
noncomputable def o722 (P : Params) : Obj := ⟨(.type "function"), none, (.func (fnOf "__iter__" "shlex.__iter__" (zBJ (stAt 9 (zAK (stAt 22 Challenge.pw_mq0411_01.main.body)))) (zAE (stAt 9 (zAK (stAt 22 Challenge.pw_mq0411_01.main.body)))) (zAB (stAt 9 (zAK (stAt 22 Challenge.pw_mq0411_01.main.body)))) .none .none .none (.str "cpy313.shlex" 1087) none (.ref 721) .none)), #[]⟩
noncomputable def o728 (P : Params) : Obj := ⟨(.type "code"), none, (.fields #[(.str "__next__" 1192), (.str "shlex.__next__" 1193), (.str "/claim/cut.py" 1194), (.int (720) 0), (.int (1) 0), (.int (0) 0), (.int (0) 0), (.int (3) 0), (.ref 723), (.bool true), (.int (318) 0), (.ref 724), .none, (.ref 725), (.ref 726), (.ref 727), (.int (1197) 0), (.int (720) 0), (.str "/claim/cut.py" 1198)]), #[]⟩
noncomputable def o729 (P : Params) : Obj := ⟨(.type "function"), none, (.func (fnOf "__next__" "shlex.__next__" (zBJ (stAt 10 (zAK (stAt 22 Challenge.pw_mq0411_01.main.body)))) (zAE (stAt 10 (zAK (stAt 22 Challenge.pw_mq0411_01.main.body)))) (zAB (stAt 10 (zAK (stAt 22 Challenge.pw_mq0411_01.main.body)))) .none .none .none (.str "cpy313.shlex" 1087) none (.ref 728) .none)), #[]⟩
noncomputable def o731 (P : Params) : Obj := ⟨(.type "dict"), none, (.dict (List.toArray [⟨PyData.keyHash P "__module__", .str "__module__" 1096, (.str "cpy313.shlex" 1087)⟩, ⟨PyData.keyHash P "__firstlineno__", .str "__firstlineno__" 1100, (.int (473) 1099)⟩, ⟨PyData.keyHash P "__init__", .str "__init__" 1112, (.ref 656)⟩, ⟨PyData.keyHash P "punctuation_chars", .str "punctuation_chars" 1120, (.ref 664)⟩, ⟨PyData.keyHash P "push_token", .str "push_token" 1128, (.ref 671)⟩, ⟨PyData.keyHash P "push_source", .str "push_source" 1137, (.ref 679)⟩, ⟨PyData.keyHash P "pop_source", .str "pop_source" 1144, (.ref 686)⟩, ⟨PyData.keyHash P "get_token", .str "get_token" 1156, (.ref 693)⟩, ⟨PyData.keyHash P "read_token", .str "read_token" 1167, (.ref 700)⟩, ⟨PyData.keyHash P "sourcehook", .str "sourcehook" 1175, (.ref 707)⟩, ⟨PyData.keyHash P "error_leader", .str "error_leader" 1184, (.ref 715)⟩, ⟨PyData.keyHash P "__iter__", .str "__iter__" 1191, (.ref 722)⟩, ⟨PyData.keyHash P "__next__", .str "__next__" 1199, (.ref 729)⟩, ⟨PyData.keyHash P "__static_attributes__", .str "__static_attributes__" 1220, (.ref 730)⟩, ⟨PyData.keyHash P "__dict__", .str "__dict__" 1222, (.ref 733)⟩, ⟨PyData.keyHash P "__weakref__", .str "__weakref__" 1224, (.ref 734)⟩, ⟨PyData.keyHash P "__doc__", .str "__doc__" 1225, .none⟩]) 4), #[]⟩
noncomputable def o732 (P : Params) : Obj := ⟨(.type "type"), none, (.cls { name := "shlex", bases := [(.type "object")], mro := [(.ref 732), (.type "object")], ns := 731, qualname := "shlex", hasDict := true, slotNames := [], subclasses := [], abstract := false, collection := none, hasDel := false }), #[none, none, (some (.str "shlex" 1089)), (some (.str "shlex" 1097)), (some (.builtin "object.__new__")), (some (.bool true))]⟩
noncomputable def o737 (P : Params) : Obj := ⟨(.type "tuple"), none, (.seq #[(.bool false), (.bool true)] 0), #[]⟩
noncomputable def o743 (P : Params) : Obj := ⟨(.type "code"), none, (.fields #[(.str "split" 1228), (.str "split" 1229), (.str "/claim/cut.py" 1230), (.int (725) 0), (.int (3) 0), (.int (0) 0), (.int (0) 0), (.int (3) 0), (.ref 738), (.bool true), (.int (318) 0), (.ref 739), .none, (.ref 740), (.ref 741), (.ref 742), (.int (1235) 0), (.int (725) 0), (.str "/claim/cut.py" 1236)]), #[]⟩
noncomputable def o744 (P : Params) : Obj := ⟨(.type "function"), none, (.func (fnOf "split" "split" (zBJ (stAt 23 Challenge.pw_mq0411_01.main.body)) (zAE (stAt 23 Challenge.pw_mq0411_01.main.body)) (zAB (stAt 23 Challenge.pw_mq0411_01.main.body)) (.ref 737) .none .none (.str "cpy313.shlex" 1087) none (.ref 743) .none)), #[]⟩
noncomputable def o750 (P : Params) : Obj := ⟨(.type "code"), none, (.fields #[(.str "join" 1238), (.str "join" 1239), (.str "/claim/cut.py" 1240), (.int (733) 0), (.int (1) 0), (.int (0) 0), (.int (0) 0), (.int (3) 0), (.ref 745), (.bool true), (.int (318) 0), (.ref 746), .none, (.ref 747), (.ref 748), (.ref 749), (.int (1242) 0), (.int (733) 0), (.str "/claim/cut.py" 1243)]), #[]⟩
noncomputable def o751 (P : Params) : Obj := ⟨(.type "function"), none, (.func (fnOf "join" "join" (zBJ (stAt 24 Challenge.pw_mq0411_01.main.body)) (zAE (stAt 24 Challenge.pw_mq0411_01.main.body)) (zAB (stAt 24 Challenge.pw_mq0411_01.main.body)) .none .none .none (.str "cpy313.shlex" 1087) none (.ref 750) .none)), #[]⟩
noncomputable def o752 (P : Params) : Obj := ⟨(.type "builtin_function_or_method"), none, (.fields #[(.builtin "re.Pattern.search"), (.ref 49)]), #[]⟩
noncomputable def o758 (P : Params) : Obj := ⟨(.type "code"), none, (.fields #[(.str "quote" 1248), (.str "quote" 1249), (.str "/claim/cut.py" 1250), (.int (737) 0), (.int (1) 0), (.int (0) 0), (.int (0) 0), (.int (3) 0), (.ref 753), (.bool true), (.int (318) 0), (.ref 754), .none, (.ref 755), (.ref 756), (.ref 757), (.int (1252) 0), (.int (737) 0), (.str "/claim/cut.py" 1253)]), #[]⟩
noncomputable def o759 (P : Params) : Obj := ⟨(.type "function"), none, (.func (fnOf "quote" "quote" (zBJ (stAt 27 Challenge.pw_mq0411_01.main.body)) (zAE (stAt 27 Challenge.pw_mq0411_01.main.body)) (zAB (stAt 27 Challenge.pw_mq0411_01.main.body)) .none .none .none (.str "cpy313.shlex" 1087) none (.ref 758) .none)), #[]⟩
noncomputable def o765 (P : Params) : Obj := ⟨(.type "code"), none, (.fields #[(.str "parse_keqv_list" 1257), (.str "parse_keqv_list" 1258), (.str "/claim/cut.py" 1259), (.int (744) 0), (.int (1) 0), (.int (0) 0), (.int (0) 0), (.int (3) 0), (.ref 760), (.bool true), (.int (318) 0), (.ref 761), .none, (.ref 762), (.ref 763), (.ref 764), (.int (1265) 0), (.int (744) 0), (.str "/claim/cut.py" 1266)]), #[]⟩
noncomputable def o766 (P : Params) : Obj := ⟨(.type "function"), none, (.func (fnOf "parse_keqv_list" "parse_keqv_list" (zBJ (stAt 29 Challenge.pw_mq0411_01.main.body)) (zAE (stAt 29 Challenge.pw_mq0411_01.main.body)) (zAB (stAt 29 Challenge.pw_mq0411_01.main.body)) .none .none .none (.str "cpy313.urllib.request" 1255) none (.ref 765) .none)), #[]⟩
noncomputable def o770 (P : Params) : Obj := ⟨(.type "code"), none, (.fields #[(.str "parse_http_list" 1268), (.str "parse_http_list" 1269), (.str "/claim/cut.py" 1270), (.int (752) 0), (.int (1) 0), (.int (0) 0), (.int (0) 0), (.int (3) 0), (.ref 767), (.bool true), (.int (318) 0), (.ref 768), .none, .none, .none, (.ref 769), (.int (1271) 0), (.int (752) 0), (.str "/claim/cut.py" 1272)]), #[]⟩
noncomputable def o771 (P : Params) : Obj := ⟨(.type "function"), none, (.func (fnOf "parse_http_list" "parse_http_list" (zBJ (stAt 30 Challenge.pw_mq0411_01.main.body)) (zAE (stAt 30 Challenge.pw_mq0411_01.main.body)) (zAB (stAt 30 Challenge.pw_mq0411_01.main.body)) .none .none .none (.str "cpy313.urllib.request" 1255) none (.ref 770) .none)), #[]⟩
noncomputable def o777 (P : Params) : Obj := ⟨(.type "code"), none, (.fields #[(.str "_law_text" 1276), (.str "_law_text" 1277), (.str "/claim/cut.py" 1278), (.int (780) 0), (.int (1) 0), (.int (0) 0), (.int (0) 0), (.int (3) 0), (.ref 772), (.bool true), (.int (318) 0), (.ref 773), .none, (.ref 774), (.ref 775), (.ref 776), (.int (1283) 0), (.int (780) 0), (.str "/claim/cut.py" 1284)]), #[]⟩
noncomputable def o778 (P : Params) : Obj := ⟨(.type "function"), none, (.func (fnOf "_law_text" "_law_text" (zBJ (stAt 32 Challenge.pw_mq0411_01.main.body)) (zAE (stAt 32 Challenge.pw_mq0411_01.main.body)) (zAB (stAt 32 Challenge.pw_mq0411_01.main.body)) .none .none .none (.str "law_mq0411_01" 1274) none (.ref 777) .none)), #[]⟩
noncomputable def o784 (P : Params) : Obj := ⟨(.type "code"), none, (.fields #[(.str "_law_tree" 1286), (.str "_law_tree" 1287), (.str "/claim/cut.py" 1288), (.int (788) 0), (.int (1) 0), (.int (0) 0), (.int (0) 0), (.int (3) 0), (.ref 779), (.bool true), (.int (318) 0), (.ref 780), .none, (.ref 781), (.ref 782), (.ref 783), (.int (1295) 0), (.int (788) 0), (.str "/claim/cut.py" 1296)]), #[]⟩
noncomputable def o785 (P : Params) : Obj := ⟨(.type "function"), none, (.func (fnOf "_law_tree" "_law_tree" (zBJ (stAt 33 Challenge.pw_mq0411_01.main.body)) (zAE (stAt 33 Challenge.pw_mq0411_01.main.body)) (zAB (stAt 33 Challenge.pw_mq0411_01.main.body)) .none .none .none (.str "law_mq0411_01" 1274) none (.ref 784) .none)), #[]⟩
noncomputable def o789 (P : Params) : Obj := ⟨(.type "code"), none, (.fields #[(.str "_law_marked" 1298), (.str "_law_marked" 1299), (.str "/claim/cut.py" 1300), (.int (802) 0), (.int (1) 0), (.int (0) 0), (.int (0) 0), (.int (3) 0), (.ref 786), (.bool true), (.int (318) 0), (.ref 787), .none, .none, .none, (.ref 788), (.int (1301) 0), (.int (802) 0), (.str "/claim/cut.py" 1302)]), #[]⟩
noncomputable def o790 (P : Params) : Obj := ⟨(.type "function"), none, (.func (fnOf "_law_marked" "_law_marked" (zBJ (stAt 34 Challenge.pw_mq0411_01.main.body)) (zAE (stAt 34 Challenge.pw_mq0411_01.main.body)) (zAB (stAt 34 Challenge.pw_mq0411_01.main.body)) .none .none .none (.str "law_mq0411_01" 1274) none (.ref 789) .none)), #[]⟩
noncomputable def o794 (P : Params) : Obj := ⟨(.type "code"), none, (.fields #[(.str "_law_written" 1304), (.str "_law_written" 1305), (.str "/claim/cut.py" 1306), (.int (804) 0), (.int (2) 0), (.int (0) 0), (.int (0) 0), (.int (3) 0), (.ref 791), (.bool true), (.int (318) 0), (.ref 792), .none, .none, .none, (.ref 793), (.int (1307) 0), (.int (804) 0), (.str "/claim/cut.py" 1308)]), #[]⟩
noncomputable def o795 (P : Params) : Obj := ⟨(.type "function"), none, (.func (fnOf "_law_written" "_law_written" (zBJ (stAt 35 Challenge.pw_mq0411_01.main.body)) (zAE (stAt 35 Challenge.pw_mq0411_01.main.body)) (zAB (stAt 35 Challenge.pw_mq0411_01.main.body)) .none .none .none (.str "law_mq0411_01" 1274) none (.ref 794) .none)), #[]⟩
noncomputable def o799 (P : Params) : Obj := ⟨(.type "code"), none, (.fields #[(.str "_law_word" 1310), (.str "_law_word" 1311), (.str "/claim/cut.py" 1312), (.int (820) 0), (.int (1) 0), (.int (0) 0), (.int (0) 0), (.int (3) 0), (.ref 796), (.bool true), (.int (318) 0), (.ref 797), .none, .none, .none, (.ref 798), (.int (1313) 0), (.int (820) 0), (.str "/claim/cut.py" 1314)]), #[]⟩
noncomputable def o800 (P : Params) : Obj := ⟨(.type "function"), none, (.func (fnOf "_law_word" "_law_word" (zBJ (stAt 36 Challenge.pw_mq0411_01.main.body)) (zAE (stAt 36 Challenge.pw_mq0411_01.main.body)) (zAB (stAt 36 Challenge.pw_mq0411_01.main.body)) .none .none .none (.str "law_mq0411_01" 1274) none (.ref 799) .none)), #[]⟩
noncomputable def o804 (P : Params) : Obj := ⟨(.type "code"), none, (.fields #[(.str "_law_read" 1316), (.str "_law_read" 1317), (.str "/claim/cut.py" 1318), (.int (825) 0), (.int (2) 0), (.int (0) 0), (.int (0) 0), (.int (3) 0), (.ref 801), (.bool true), (.int (318) 0), (.ref 802), .none, .none, .none, (.ref 803), (.int (1319) 0), (.int (825) 0), (.str "/claim/cut.py" 1320)]), #[]⟩
noncomputable def o805 (P : Params) : Obj := ⟨(.type "function"), none, (.func (fnOf "_law_read" "_law_read" (zBJ (stAt 37 Challenge.pw_mq0411_01.main.body)) (zAE (stAt 37 Challenge.pw_mq0411_01.main.body)) (zAB (stAt 37 Challenge.pw_mq0411_01.main.body)) .none .none .none (.str "law_mq0411_01" 1274) none (.ref 804) .none)), #[]⟩
noncomputable def o809 (P : Params) : Obj := ⟨(.type "code"), none, (.fields #[(.str "law" 1322), (.str "law" 1323), (.str "/claim/cut.py" 1324), (.int (839) 0), (.int (1) 0), (.int (0) 0), (.int (0) 0), (.int (3) 0), (.ref 806), (.bool true), (.int (318) 0), (.ref 807), .none, .none, .none, (.ref 808), (.int (1325) 0), (.int (839) 0), (.str "/claim/cut.py" 1326)]), #[]⟩
noncomputable def o810 (P : Params) : Obj := ⟨(.type "function"), none, (.func (fnOf "law" "law" (zBJ (stAt 38 Challenge.pw_mq0411_01.main.body)) (zAE (stAt 38 Challenge.pw_mq0411_01.main.body)) (zAB (stAt 38 Challenge.pw_mq0411_01.main.body)) .none .none .none (.str "law_mq0411_01" 1274) none (.ref 809) .none)), #[]⟩
noncomputable def KK (P : Params) : Frag := [(nat_lit 3, o3 P), (nat_lit 4, o4 P), (nat_lit 48, o48 P), (nat_lit 49, o49 P), (nat_lit 62, o62 P), (nat_lit 63, o63 P), (nat_lit 89, o89 P), (nat_lit 90, o90 P), (nat_lit 92, o92 P), (nat_lit 93, o93 P), (nat_lit 94, o94 P), (nat_lit 119, o119 P), (nat_lit 120, o120 P), (nat_lit 350, o350 P), (nat_lit 360, o360 P), (nat_lit 366, o366 P), (nat_lit 367, o367 P), (nat_lit 373, o373 P), (nat_lit 374, o374 P), (nat_lit 380, o380 P), (nat_lit 381, o381 P), (nat_lit 536, o536 P), (nat_lit 542, o542 P), (nat_lit 543, o543 P), (nat_lit 565, o565 P), (nat_lit 566, o566 P), (nat_lit 572, o572 P), (nat_lit 573, o573 P), (nat_lit 596, o596 P), (nat_lit 597, o597 P), (nat_lit 649, o649 P), (nat_lit 655, o655 P), (nat_lit 656, o656 P), (nat_lit 662, o662 P), (nat_lit 663, o663 P), (nat_lit 664, o664 P), (nat_lit 692, o692 P), (nat_lit 693, o693 P), (nat_lit 699, o699 P), (nat_lit 700, o700 P), (nat_lit 721, o721 P), (nat_lit 722, o722 P), (nat_lit 728, o728 P), (nat_lit 729, o729 P), (nat_lit 731, o731 P), (nat_lit 732, o732 P), (nat_lit 737, o737 P), (nat_lit 743, o743 P), (nat_lit 744, o744 P), (nat_lit 750, o750 P), (nat_lit 751, o751 P), (nat_lit 752, o752 P), (nat_lit 758, o758 P), (nat_lit 759, o759 P), (nat_lit 765, o765 P), (nat_lit 766, o766 P), (nat_lit 770, o770 P), (nat_lit 771, o771 P), (nat_lit 777, o777 P), (nat_lit 778, o778 P), (nat_lit 784, o784 P), (nat_lit 785, o785 P), (nat_lit 789, o789 P), (nat_lit 790, o790 P), (nat_lit 794, o794 P), (nat_lit 795, o795 P), (nat_lit 799, o799 P), (nat_lit 800, o800 P), (nat_lit 804, o804 P), (nat_lit 805, o805 P), (nat_lit 809, o809 P), (nat_lit 810, o810 P)]
noncomputable def B01 : List Stmt := Challenge.pw_mq0411_01.main.body
noncomputable def s63 : Stmt := stAt 6 B01
noncomputable def s90 : Stmt := stAt 1 (zAK (stAt 8 B01))
noncomputable def s367 : Stmt := stAt 1 (zAK (stAt 12 B01))
noncomputable def s374 : Stmt := stAt 2 (zAK (stAt 12 B01))
noncomputable def s381 : Stmt := stAt 3 (zAK (stAt 12 B01))
noncomputable def s543 : Stmt := stAt 25 (zAK (stAt 12 B01))
noncomputable def s656 : Stmt := stAt 0 (zAK (stAt 22 B01))
noncomputable def s663 : Stmt := stAt 1 (zAK (stAt 22 B01))
noncomputable def f63 : FnE := ⟨63, 2, ["n", "what"], [], zAE s63, zAB s63, "_index", .ref 62, []⟩
noncomputable def f381 : FnE := ⟨381, 1, ["self"], [], zAE s381, zAB s381, "StringIO.__check", .ref 380, []⟩
noncomputable def f543 : FnE := ⟨543, 2, ["self", "size"], [], zAE s543, zAB s543, "StringIO.read", .ref 542, []⟩
theorem zTp (P : Params) : FnOk (KK P) f381 := FnOk.of (by kernel_rfl) (by kernel_rfl) ⟨_, _, _, _, (by kernel_rfl : (KK P).lookup 381 = some (o381 P)), rfl, rfl, fun _ _ => rfl, rfl, rfl, fun s vs X h => by
 obtain ⟨a, rfl⟩ := len1 h
 exact BindsTo.of_eq (by kernel_rfl)⟩
noncomputable def f663 : FnE := ⟨663, 1, ["self"], [], zAE s663, zAB s663, "shlex.punctuation_chars", .ref 662, []⟩
theorem zQT (P : Params) : FnOk (KK P) f663 := FnOk.of (by kernel_rfl) (by kernel_rfl) ⟨_, _, _, _, (by kernel_rfl : (KK P).lookup 663 = some (o663 P)), rfl, rfl, fun _ _ => rfl, rfl, rfl, fun s vs X h => by
 obtain ⟨a, rfl⟩ := len1 h
 exact BindsTo.of_eq (by kernel_rfl)⟩
theorem zUk (P : Params) : FnOk (KK P) f63 := FnOk.of (by kernel_rfl) (by kernel_rfl) ⟨_, _, _, _, (by kernel_rfl : (KK P).lookup 63 = some (o63 P)), rfl, rfl, fun _ _ => rfl, rfl, rfl, fun s vs X h => by
 obtain ⟨a, b, rfl⟩ := len2 h
 exact BindsTo.of_eq (by kernel_rfl)⟩
theorem zTo (P : Params) : FnOk (KK P) f543 := FnOk.of (by kernel_rfl) (by kernel_rfl) ⟨_, _, _, _, (by kernel_rfl : (KK P).lookup 543 = some (o543 P)), rfl, rfl, fun _ _ => rfl, rfl, rfl, fun s vs X h => by
 obtain ⟨a, b, rfl⟩ := len2 h
 exact binds_K (K := KK P) X rfl (by kernel_rfl : (KK P).lookup 536 = some (o536 P)) rfl (by rfl) (by kernel_rfl)⟩
noncomputable def c597 : ClsE := ⟨597, ["_StringIO__buf", "_StringIO__pos", "_StringIO__newline"], [("_StringIO__check", 381), ("_StringIO__translated", 374), ("read", 543)], []⟩
theorem zGg (P : Params) : ClsOk (KK P) c597 := ClsOk.of (by kernel_rfl)
noncomputable def c732 : ClsE := ⟨732, ["instream", "infile", "posix", "eof", "commenters", "wordchars", "whitespace", "whitespace_split", "quotes", "escape", "escapedquotes", "state", "pushback", "lineno", "debug", "token", "filestack", "source", "_punctuation_chars"], [("get_token", 693), ("read_token", 700)], [("punctuation_chars", 664, 663)]⟩
theorem zIV (P : Params) : ClsOk (KK P) c732 := ClsOk.of (by kernel_rfl)
noncomputable def g01 : List (Str × Value) := [("_index", .ref 63), ("len", .builtin "len"), ("type", .type "type"), ("int", .type "int"), ("bool", .type "bool"), ("deque", .type "collections.deque"), ("isinstance", .builtin "isinstance"), ("str", .type "str")]
theorem zNc (P : Params) : ∀ p ∈ g01, zDh (KK P) p :=
 zAA ⟨by kernel_rfl, .inl (by kernel_rfl)⟩ <| zAA ⟨by kernel_rfl, .inr ⟨by kernel_rfl, by kernel_rfl, by kernel_rfl⟩⟩ <| zAA ⟨by kernel_rfl, .inr ⟨by kernel_rfl, by kernel_rfl, by kernel_rfl⟩⟩ <|
 zAA ⟨by kernel_rfl, .inr ⟨by kernel_rfl, by kernel_rfl, by kernel_rfl⟩⟩ <| zAA ⟨by kernel_rfl, .inr ⟨by kernel_rfl, by kernel_rfl, by kernel_rfl⟩⟩ <| zAA ⟨by kernel_rfl, .inl (by kernel_rfl)⟩ <|
 zAA ⟨by kernel_rfl, .inr ⟨by kernel_rfl, by kernel_rfl, by kernel_rfl⟩⟩ <| zAA ⟨by kernel_rfl, .inr ⟨by kernel_rfl, by kernel_rfl, by kernel_rfl⟩⟩ <| zAD
noncomputable abbrev sio (b : Str) (p : Int) : SO := .inst 597 [("_StringIO__newline", .str "\n"), ("_StringIO__buf", .str b), ("_StringIO__pos", .int p)]
noncomputable def cf0 (P : Params) : Cf where
 K := KK P
 globs := g01
 fns := [f63, f381, f543, f663]
 cls := [c597, c732]
theorem cok0 (w : World) : CfOk w (cf0 w.params) where
 fns := zAA ⟨zUk _, by kernel_rfl, zAR (by kernel_rfl)⟩ <| zAA ⟨zTp _, by kernel_rfl, zAR (by kernel_rfl)⟩ <| zAA ⟨zTo _, by kernel_rfl, zAR (by kernel_rfl)⟩ <| zAA ⟨zQT _, by kernel_rfl, zAR (by kernel_rfl)⟩ <| zAD
 cls := zAA (zGg _) <| zAA (zIV _) <| zAD
 globs := zAn (zNc _)
 sps := zAD
 hxs := zAD
 hss := zAD
theorem zMW (P : Params) (b : Str) (p : Int) (a : SO) (l : List SO) (k : Kt) : ev (cf0 P) 30 (zAB s543).names (.sts (zAE s543)) { loc := [("self", .obj 1), ("size", .int 1)], led := a :: sio b p :: l } k =
   ifT (decide ((b.length : Int) ≤ p)) (k (.ret (.str "")) { loc := [("self", .obj 1), ("size", .int 1), ("start", .int p), ("stop", .int b.length)], led := a :: sio b p :: l })
    (ifT (decide (p + 1 < b.length)) (k (.ret (.str (Txt.slice b (some p) (some (p + 1))))) { loc := [("self", .obj 1), ("size", .int 1), ("start", .int p), ("stop", .int (p + 1))], led := a :: sio b (p + 1) :: l })
      (k (.ret (.str (Txt.slice b (some p) (some b.length)))) { loc := [("self", .obj 1), ("size", .int 1), ("start", .int p), ("stop", .int b.length)], led := a :: sio b b.length :: l })) := by
  kernel_rfl
noncomputable def SgAt (b : Str) (p : Int) (x : SV) : Prop := 0 ≤ p ∧ p < b.length ∧ zEP x = some (Txt.slice b (some p) (some (p + 1))) ∧ (match x with
 | .sg c es fs => (∀ q ∈ es, Fast.sEq (sgS c) q.1 = q.2) ∧ (∀ q ∈ fs, inB (sgS c) q.1 = q.2)
 | _ => True)
noncomputable def zOG (svs : List SV) : Bool := match svs with
 | x :: r => match r with
  | y :: q => match q with
   | [] => match x with
    | .obj i => match y with
     | .int j => i == 1 && j == 1
     | _ => false
    | _ => false
   | _ :: _ => false
  | [] => false
 | [] => false
theorem zOF {svs : List SV} (h : zOG svs = true) : svs = [.obj 1, .int 1] := by
 cases svs with
 | nil => exact Bool.noConfusion h
 | cons x r =>
 cases r with
 | nil => exact Bool.noConfusion h
 | cons y q =>
 cases q with
 | cons => exact Bool.noConfusion h
 | nil =>
 cases x <;> first | exact Bool.noConfusion h | skip
 cases y <;> first | exact Bool.noConfusion h | skip
 obtain ⟨a, b⟩ := (Bool.and_eq_true_iff.mp h : _ ∧ _)
 rw [eq_of_beq a, eq_of_beq b]
noncomputable def zUK (so : SO) : Option (Str × Int) := match so with
 | .inst _ fs => match fs with
  | _ :: r => match r with
   | f :: r => match r with
    | g :: _ => match f.2 with
     | .str b => match g.2 with
      | .int p => some (b, p)
      | _ => none
     | _ => none
    | [] => none
   | [] => none
  | [] => none
 | _ => none
noncomputable def zTE (o : Option (Str × Int)) (f : Str → Int → Prop) : Prop := match o with
 | some bp => f bp.1 bp.2
 | none => False
theorem zLE {o : Option (Str × Int)} {f : Str → Int → Prop} (h : zTE o f) : ∃ b p, f b p := by
 cases o with
 | none => exact h.elim
 | some bp => exact ⟨_, _, h⟩
noncomputable def rdG (svs : List SV) (st : St) (f : SO → SO → List SO → Str → Int → Prop) : Prop := match zOG svs with
 | true => match st.led with
  | a :: r => match r with
   | so :: rest => zTE (zUK so) fun b p => f a so rest b p
   | [] => False
  | [] => False
 | false => False
theorem zHs {svs : List SV} {st : St} {f : SO → SO → List SO → Str → Int → Prop} (h : rdG svs st f) : ∃ a so rest b p, svs = [.obj 1, .int 1] ∧ st.led = a :: so :: rest ∧ f a so rest b p := by
 unfold rdG at h
 cases q : zOG svs with
 | false => rw [q] at h; exact h.elim
 | true =>
  rw [q] at h
  obtain ⟨loc, led⟩ := st
  cases led with
  | nil => exact h.elim
  | cons a r =>
  cases r with
  | nil => exact h.elim
  | cons so rest =>
   obtain ⟨b, p, h⟩ := zLE h
   exact ⟨a, so, rest, b, p, zOF q, rfl, h⟩
noncomputable def rdF (x : SV) (svs : List SV) (st : St) (k : Kt) : Prop := rdG svs st fun a so rest b p => so = sio b p ∧ SgAt b p x ∧ k (.v x) { st with led := a :: sio b (p + 1) :: rest }
noncomputable def rdE (svs : List SV) (st : St) (k : Kt) : Prop := rdG svs st fun a so rest b p => so = sio b p ∧ (b.length : Int) ≤ p ∧ k (.v (.str "")) st
noncomputable def rdSp (x : SV) : SpE := ⟨543, 2, 40, rdF x⟩
noncomputable def rdEnd : SpE := ⟨543, 2, 40, rdE⟩
theorem zMY {x : SV} {svs : List SV} {st : St} {k : Kt} (h : rdF x svs st k) : ∃ a b p rest, svs = [.obj 1, .int 1] ∧ st.led = a :: sio b p :: rest ∧ SgAt b p x ∧ k (.v x) { st with led := a :: sio b (p + 1) :: rest } := by
 obtain ⟨a, so, rest, b, p, e, hl, h1, h2, h3⟩ := zHs h
 exact ⟨a, b, p, rest, e, by rw [hl, h1], h2, h3⟩
theorem zMZ {svs : List SV} {st : St} {k : Kt} (h : rdE svs st k) : ∃ a b p rest, svs = [.obj 1, .int 1] ∧ st.led = a :: sio b p :: rest ∧ (b.length : Int) ≤ p ∧ k (.v (.str "")) st := by
 obtain ⟨a, so, rest, b, p, e, hl, h1, h2, h3⟩ := zHs h
 exact ⟨a, b, p, rest, e, by rw [hl, h1], h2, h3⟩
theorem zSy {w : World} {C : Cf} (hK : C.K = KK w.params) (hC : C.known = true) (x : SV) : SpOk w C (rdSp x) := by
 refine ⟨by rw [hK]; kernel_rfl, ?_⟩
 intro F A ads st s svs vs k Q Rr ok hA hh hd hu h R D hl T hR
 replace hA : true = true → A.frames = some F.stk := fun _ => hA hC
 obtain ⟨a, b, p, rest, rfl, hled, ⟨p0, p1, sx, fx⟩, hk⟩ := zMY h
 have ok0 : FmOk (cf0 w.params) F := zAX (by rw [hK]; rfl) ok (by first | exact fun _ => rfl | exact fun _ => by assumption | exact fun h => h)
 have cok := cok0 w
 have d40 : (rdSp x).d = 40 := rfl
 rw [d40] at hd hu
 -- the result as a plain text
 let k' : Kt := fun r st' => ∃ z, r = .v z ∧ zEP x = zEP z ∧ (∃ u, z = .str u) ∧ st' = { st with led := a :: sio b (p + 1) :: rest }
 have T' : Then w F ads s k' Q := by
  rintro r st' more c s' ⟨z, rfl, hz, ⟨u, rfl⟩, rfl⟩ R' nx d
  cases c with
  | v v =>
   refine T (.v x) _ more (.v v) s' hk R' nx ?_
   show Den F.B (wa ads more) x v
   have du : Den F.B (wa ads more) (.str u) v := d
   cases x with
   | str y =>
    have : y = u := Option.some.inj hz
    rw [this]; exact du
   | sg c es fs =>
    have : sgS c = u := Option.some.inj hz
    subst this
    exact ⟨du.1, fx.1, fx.2⟩
   | _ => cases hz
  | _ => exact d.elim
 have hb : decide ((b.length : Int) ≤ p) = false := decide_eq_false (by omega)
 refine zCe (e := f543) (n := 30) (zBs cok 30) cok ok0 hA hh (by omega) (by omega) (by omega) R D (by kernel_rfl) ?_ T' hR
 rw [hled]
 show ev (cf0 w.params) 30 (zAB s543).names (.sts (zAE s543)) { loc := [("self", .obj 1), ("size", .int 1)], led := a :: sio b p :: rest } _
 rw [zMW, hb]
 show ifT (decide (p + 1 < b.length)) _ _
 cases q : decide (p + 1 < b.length) with
 | true => exact ⟨_, rfl, sx, ⟨_, rfl⟩, rfl⟩
 | false =>
  have : (b.length : Int) = p + 1 := by have := of_decide_eq_false q; omega
  rw [this]
  exact ⟨_, rfl, sx, ⟨_, rfl⟩, rfl⟩
theorem zPA {w : World} {C : Cf} (hK : C.K = KK w.params) (hC : C.known = true) : SpOk w C rdEnd := by
 refine ⟨by rw [hK]; kernel_rfl, ?_⟩
 intro F A ads st s svs vs k Q Rr ok hA hh hd hu h R D hl T hR
 replace hA : true = true → A.frames = some F.stk := fun _ => hA hC
 obtain ⟨a, b, p, rest, rfl, hled, hp, hk⟩ := zMZ h
 have ok0 : FmOk (cf0 w.params) F := zAX (by rw [hK]; rfl) ok (by first | exact fun _ => rfl | exact fun _ => by assumption | exact fun h => h)
 have cok := cok0 w
 have d40 : rdEnd.d = 40 := rfl
 rw [d40] at hd hu
 have hb : decide ((b.length : Int) ≤ p) = true := decide_eq_true hp
 refine zCe (e := f543) (n := 30) (zBs cok 30) cok ok0 hA hh (by omega) (by omega) (by omega) R D (by kernel_rfl) ?_ T hR
 rw [hled]
 show ev (cf0 w.params) 30 (zAB s543).names (.sts (zAE s543)) { loc := [("self", .obj 1), ("size", .int 1)], led := a :: sio b p :: rest } _
 rw [zMW, hb]
 show k (.v (.str "")) { loc := st.loc, led := a :: sio b p :: rest }
 rw [← hled]
 exact hk
noncomputable def s700 : Stmt := stAt 6 (zAK (stAt 22 B01))
noncomputable def zUJ : Stmt → List Stmt
 | .While _ b _ _ => b
 | _ => []
noncomputable def zAI : List Stmt := zUJ (stAt 2 (zAE s700))
noncomputable def cfR (P : Params) (e : SpE) : Cf where
 K := KK P
 globs := g01
 fns := [f663]
 cls := [c597, c732]
 sps := [e]
noncomputable def wch : Str := "abcdfeghijklmnopqrstuvwxyzABCDEFGHIJKLMNOPQRSTUVWXYZ0123456789_ßàáâãäåæçèéêëìíîïðñòóôõöøùúûüýþÿÀÁÂÃÄÅÆÇÈÉÊËÌÍÎÏÐÑÒÓÔÕÖØÙÚÛÜÝÞ"
noncomputable abbrev lx (state token : SV) (line : Int) : SO := .inst 732 [("instream", .obj 1), ("infile", .none), ("posix", .bool true), ("eof", .none), ("commenters", .str ""), ("wordchars", .str wch), ("whitespace", .str " \t\r\n"), ("whitespace_split", .bool true), ("quotes", .str "'\""), ("escape", .str "\\"), ("escapedquotes", .str "\""), ("state", state), ("pushback", .obj 2), ("lineno", .int line), ("debug", .int 0), ("token", token), ("filestack", .obj 3), ("source", .none), ("_punctuation_chars", .str "")]
noncomputable abbrev dqO : SO := .raw (zBd .none (rawInt 0))
noncomputable abbrev zAC (state token : SV) (line : Int) (b : Str) (p : Int) (l : List SO) : List SO := lx state token line :: sio b p :: dqO :: dqO :: l
noncomputable def esO : List (Str × Bool) := [("\n", false), ("'", false), ("\"", false), ("\\", false)]
noncomputable def fsO (u : Bool) : List (Str × Bool) := [(" \t\r\n", false), ("", false), ("\\", false), (wch, u), ("'\"", false)]
theorem zRC (P : Params) (e : SV) (b : Str) (i p : Int) (k : Kt) : ev (cfR P (rdSp (.str "\n"))) 60 (zAB s700).names (.sts zAI) { loc := [("self", .obj 0), ("quoted", (.bool false)), ("escapedstate", e)], led := zAC (.str " ") (.str "") i b p [] } k = (sio b p = sio b p ∧ SgAt b p (.str "\n") ∧ k .cont { loc := [("self", .obj 0), ("quoted", (.bool false)), ("escapedstate", e), ("nextchar", (.str "\n"))], led := zAC (.str " ") (.str "") (i + 1) b (p + 1) [] }) := by
 kernel_rfl
theorem zRG (P : Params) (e : SV) (b : Str) (i p : Int) (k : Kt) : ev (cfR P (rdSp (.str " "))) 60 (zAB s700).names (.sts zAI) { loc := [("self", .obj 0), ("quoted", (.bool false)), ("escapedstate", e)], led := zAC (.str " ") (.str "") i b p [] } k = (sio b p = sio b p ∧ SgAt b p (.str " ") ∧ k .cont { loc := [("self", .obj 0), ("quoted", (.bool false)), ("escapedstate", e), ("nextchar", (.str " "))], led := zAC (.str " ") (.str "") i b (p + 1) [] }) := by
 kernel_rfl
theorem zRA (P : Params) (e : SV) (b : Str) (i p : Int) (k : Kt) : ev (cfR P (rdSp (.str "\t"))) 60 (zAB s700).names (.sts zAI) { loc := [("self", .obj 0), ("quoted", (.bool false)), ("escapedstate", e)], led := zAC (.str " ") (.str "") i b p [] } k = (sio b p = sio b p ∧ SgAt b p (.str "\t") ∧ k .cont { loc := [("self", .obj 0), ("quoted", (.bool false)), ("escapedstate", e), ("nextchar", (.str "\t"))], led := zAC (.str " ") (.str "") i b (p + 1) [] }) := by
 kernel_rfl
theorem zRE (P : Params) (e : SV) (b : Str) (i p : Int) (k : Kt) : ev (cfR P (rdSp (.str "\r"))) 60 (zAB s700).names (.sts zAI) { loc := [("self", .obj 0), ("quoted", (.bool false)), ("escapedstate", e)], led := zAC (.str " ") (.str "") i b p [] } k = (sio b p = sio b p ∧ SgAt b p (.str "\r") ∧ k .cont { loc := [("self", .obj 0), ("quoted", (.bool false)), ("escapedstate", e), ("nextchar", (.str "\r"))], led := zAC (.str " ") (.str "") i b (p + 1) [] }) := by
 kernel_rfl
theorem zRB (P : Params) (e : SV) (b : Str) (i p : Int) (k : Kt) : ev (cfR P (rdSp (.str "'"))) 60 (zAB s700).names (.sts zAI) { loc := [("self", .obj 0), ("quoted", (.bool false)), ("escapedstate", e)], led := zAC (.str " ") (.str "") i b p [] } k = (sio b p = sio b p ∧ SgAt b p (.str "'") ∧ k .next { loc := [("self", .obj 0), ("quoted", (.bool false)), ("escapedstate", e), ("nextchar", (.str "'"))], led := zAC (.str "'") (.str "") i b (p + 1) [] }) := by
 kernel_rfl
theorem zRD (P : Params) (e : SV) (b : Str) (i p : Int) (k : Kt) : ev (cfR P (rdSp (.str "\""))) 60 (zAB s700).names (.sts zAI) { loc := [("self", .obj 0), ("quoted", (.bool false)), ("escapedstate", e)], led := zAC (.str " ") (.str "") i b p [] } k = (sio b p = sio b p ∧ SgAt b p (.str "\"") ∧ k .next { loc := [("self", .obj 0), ("quoted", (.bool false)), ("escapedstate", e), ("nextchar", (.str "\""))], led := zAC (.str "\"") (.str "") i b (p + 1) [] }) := by
 kernel_rfl
theorem zRF (P : Params) (e : SV) (b : Str) (i p : Int) (k : Kt) : ev (cfR P (rdSp (.str "\\"))) 60 (zAB s700).names (.sts zAI) { loc := [("self", .obj 0), ("quoted", (.bool false)), ("escapedstate", e)], led := zAC (.str " ") (.str "") i b p [] } k = (sio b p = sio b p ∧ SgAt b p (.str "\\") ∧ k .next { loc := [("self", .obj 0), ("quoted", (.bool false)), ("escapedstate", (.str "a")), ("nextchar", (.str "\\"))], led := zAC (.str "\\") (.str "") i b (p + 1) [] }) := by
 kernel_rfl
theorem zIm (P : Params) (c : Nat) (e : SV) (b : Str) (i p : Int) (k : Kt) : ev (cfR P (rdSp (.sg c esO (fsO true)))) 60 (zAB s700).names (.sts zAI) { loc := [("self", .obj 0), ("quoted", (.bool false)), ("escapedstate", e)], led := zAC (.str " ") (.str "") i b p [] } k = (sio b p = sio b p ∧ SgAt b p (.sg c esO (fsO true)) ∧ k .next { loc := [("self", .obj 0), ("quoted", (.bool false)), ("escapedstate", e), ("nextchar", (.sg c esO (fsO true)))], led := zAC (.str "a") (.str (sgS c)) i b (p + 1) [] }) := by
 kernel_rfl
theorem zHc (P : Params) (c : Nat) (e : SV) (b : Str) (i p : Int) (k : Kt) : ev (cfR P (rdSp (.sg c esO (fsO false)))) 60 (zAB s700).names (.sts zAI) { loc := [("self", .obj 0), ("quoted", (.bool false)), ("escapedstate", e)], led := zAC (.str " ") (.str "") i b p [] } k = (sio b p = sio b p ∧ SgAt b p (.sg c esO (fsO false)) ∧ k .next { loc := [("self", .obj 0), ("quoted", (.bool false)), ("escapedstate", e), ("nextchar", (.sg c esO (fsO false)))], led := zAC (.str "a") (.str (sgS c)) i b (p + 1) [] }) := by
 kernel_rfl
theorem zOS (P : Params) (e : SV) (b : Str) (i p : Int) (k : Kt) : ev (cfR P rdEnd) 60 (zAB s700).names (.sts zAI) { loc := [("self", .obj 0), ("quoted", (.bool false)), ("escapedstate", e)], led := zAC (.str " ") (.str "") i b p [] } k = (sio b p = sio b p ∧ (b.length : Int) ≤ p ∧ k .brk { loc := [("self", .obj 0), ("quoted", (.bool false)), ("escapedstate", e), ("nextchar", .str "")], led := zAC .none (.str "") i b p [] }) := by
 kernel_rfl
theorem zQA (P : Params) (q : Bool) (e : SV) (t : Str) (b : Str) (i p : Int) (k : Kt) : ev (cfR P (rdSp (.str "\n"))) 60 (zAB s700).names (.sts zAI) { loc := [("self", .obj 0), ("quoted", .bool q), ("escapedstate", e)], led := zAC (.str "a") (.str t) i b p [] } k = (sio b p = sio b p ∧ SgAt b p (.str "\n") ∧ ifT ((t.length : Int) != 0) (k .brk { loc := [("self", .obj 0), ("quoted", .bool q), ("escapedstate", e), ("nextchar", (.str "\n"))], led := zAC (.str " ") (.str t) (i + 1) b (p + 1) [.tup [.str "a", .str "c"]] }) (ifT q (k .brk { loc := [("self", .obj 0), ("quoted", .bool q), ("escapedstate", e), ("nextchar", (.str "\n"))], led := zAC (.str " ") (.str t) (i + 1) b (p + 1) [.tup [.str "a", .str "c"]] }) (k .cont { loc := [("self", .obj 0), ("quoted", .bool q), ("escapedstate", e), ("nextchar", (.str "\n"))], led := zAC (.str " ") (.str t) (i + 1) b (p + 1) [.tup [.str "a", .str "c"]] }))) := by
 kernel_rfl
theorem zQC (P : Params) (q : Bool) (e : SV) (t : Str) (b : Str) (i p : Int) (k : Kt) : ev (cfR P (rdSp (.str " "))) 60 (zAB s700).names (.sts zAI) { loc := [("self", .obj 0), ("quoted", .bool q), ("escapedstate", e)], led := zAC (.str "a") (.str t) i b p [] } k = (sio b p = sio b p ∧ SgAt b p (.str " ") ∧ ifT ((t.length : Int) != 0) (k .brk { loc := [("self", .obj 0), ("quoted", .bool q), ("escapedstate", e), ("nextchar", (.str " "))], led := zAC (.str " ") (.str t) i b (p + 1) [.tup [.str "a", .str "c"]] }) (ifT q (k .brk { loc := [("self", .obj 0), ("quoted", .bool q), ("escapedstate", e), ("nextchar", (.str " "))], led := zAC (.str " ") (.str t) i b (p + 1) [.tup [.str "a", .str "c"]] }) (k .cont { loc := [("self", .obj 0), ("quoted", .bool q), ("escapedstate", e), ("nextchar", (.str " "))], led := zAC (.str " ") (.str t) i b (p + 1) [.tup [.str "a", .str "c"]] }))) := by
 kernel_rfl
theorem zPz (P : Params) (q : Bool) (e : SV) (t : Str) (b : Str) (i p : Int) (k : Kt) : ev (cfR P (rdSp (.str "\t"))) 60 (zAB s700).names (.sts zAI) { loc := [("self", .obj 0), ("quoted", .bool q), ("escapedstate", e)], led := zAC (.str "a") (.str t) i b p [] } k = (sio b p = sio b p ∧ SgAt b p (.str "\t") ∧ ifT ((t.length : Int) != 0) (k .brk { loc := [("self", .obj 0), ("quoted", .bool q), ("escapedstate", e), ("nextchar", (.str "\t"))], led := zAC (.str " ") (.str t) i b (p + 1) [.tup [.str "a", .str "c"]] }) (ifT q (k .brk { loc := [("self", .obj 0), ("quoted", .bool q), ("escapedstate", e), ("nextchar", (.str "\t"))], led := zAC (.str " ") (.str t) i b (p + 1) [.tup [.str "a", .str "c"]] }) (k .cont { loc := [("self", .obj 0), ("quoted", .bool q), ("escapedstate", e), ("nextchar", (.str "\t"))], led := zAC (.str " ") (.str t) i b (p + 1) [.tup [.str "a", .str "c"]] }))) := by
 kernel_rfl
theorem zQB (P : Params) (q : Bool) (e : SV) (t : Str) (b : Str) (i p : Int) (k : Kt) : ev (cfR P (rdSp (.str "\r"))) 60 (zAB s700).names (.sts zAI) { loc := [("self", .obj 0), ("quoted", .bool q), ("escapedstate", e)], led := zAC (.str "a") (.str t) i b p [] } k = (sio b p = sio b p ∧ SgAt b p (.str "\r") ∧ ifT ((t.length : Int) != 0) (k .brk { loc := [("self", .obj 0), ("quoted", .bool q), ("escapedstate", e), ("nextchar", (.str "\r"))], led := zAC (.str " ") (.str t) i b (p + 1) [.tup [.str "a", .str "c"]] }) (ifT q (k .brk { loc := [("self", .obj 0), ("quoted", .bool q), ("escapedstate", e), ("nextchar", (.str "\r"))], led := zAC (.str " ") (.str t) i b (p + 1) [.tup [.str "a", .str "c"]] }) (k .cont { loc := [("self", .obj 0), ("quoted", .bool q), ("escapedstate", e), ("nextchar", (.str "\r"))], led := zAC (.str " ") (.str t) i b (p + 1) [.tup [.str "a", .str "c"]] }))) := by
 kernel_rfl
theorem zSq (P : Params) (q : Bool) (e : SV) (t : Str) (b : Str) (i p : Int) (k : Kt) : ev (cfR P (rdSp (.str "'"))) 60 (zAB s700).names (.sts zAI) { loc := [("self", .obj 0), ("quoted", (.bool q)), ("escapedstate", e)], led := zAC (.str "a") (.str t) i b p [] } k = (sio b p = sio b p ∧ SgAt b p (.str "'") ∧ k .next { loc := [("self", .obj 0), ("quoted", (.bool q)), ("escapedstate", e), ("nextchar", (.str "'"))], led := zAC (.str "'") (.str t) i b (p + 1) [.tup [.str "a", .str "c"]] }) := by
 kernel_rfl
theorem zSr (P : Params) (q : Bool) (e : SV) (t : Str) (b : Str) (i p : Int) (k : Kt) : ev (cfR P (rdSp (.str "\""))) 60 (zAB s700).names (.sts zAI) { loc := [("self", .obj 0), ("quoted", (.bool q)), ("escapedstate", e)], led := zAC (.str "a") (.str t) i b p [] } k = (sio b p = sio b p ∧ SgAt b p (.str "\"") ∧ k .next { loc := [("self", .obj 0), ("quoted", (.bool q)), ("escapedstate", e), ("nextchar", (.str "\""))], led := zAC (.str "\"") (.str t) i b (p + 1) [.tup [.str "a", .str "c"]] }) := by
 kernel_rfl
theorem zSs (P : Params) (q : Bool) (e : SV) (t : Str) (b : Str) (i p : Int) (k : Kt) : ev (cfR P (rdSp (.str "\\"))) 60 (zAB s700).names (.sts zAI) { loc := [("self", .obj 0), ("quoted", (.bool q)), ("escapedstate", e)], led := zAC (.str "a") (.str t) i b p [] } k = (sio b p = sio b p ∧ SgAt b p (.str "\\") ∧ k .next { loc := [("self", .obj 0), ("quoted", (.bool q)), ("escapedstate", (.str "a")), ("nextchar", (.str "\\"))], led := zAC (.str "\\") (.str t) i b (p + 1) [.tup [.str "a", .str "c"]] }) := by
 kernel_rfl
theorem zKb (P : Params) (c : Nat) (q : Bool) (e : SV) (t : Str) (b : Str) (i p : Int) (k : Kt) : ev (cfR P (rdSp (.sg c esO (fsO true)))) 60 (zAB s700).names (.sts zAI) { loc := [("self", .obj 0), ("quoted", (.bool q)), ("escapedstate", e)], led := zAC (.str "a") (.str t) i b p [] } k = (sio b p = sio b p ∧ SgAt b p (.sg c esO (fsO true)) ∧ (t.length + 1 ≤ sizeLine ∧ k .next { loc := [("self", .obj 0), ("quoted", (.bool q)), ("escapedstate", e), ("nextchar", (.sg c esO (fsO true)))], led := zAC (.str "a") (.str (t ++ sgS c)) i b (p + 1) [.tup [.str "a", .str "c"]] })) := by
 kernel_rfl
theorem zIo (P : Params) (c : Nat) (q : Bool) (e : SV) (t : Str) (b : Str) (i p : Int) (k : Kt) : ev (cfR P (rdSp (.sg c esO (fsO false)))) 60 (zAB s700).names (.sts zAI) { loc := [("self", .obj 0), ("quoted", (.bool q)), ("escapedstate", e)], led := zAC (.str "a") (.str t) i b p [] } k = (sio b p = sio b p ∧ SgAt b p (.sg c esO (fsO false)) ∧ (t.length + 1 ≤ sizeLine ∧ k .next { loc := [("self", .obj 0), ("quoted", (.bool q)), ("escapedstate", e), ("nextchar", (.sg c esO (fsO false)))], led := zAC (.str "a") (.str (t ++ sgS c)) i b (p + 1) [.tup [.str "a", .str "c"]] })) := by
 kernel_rfl
theorem zRO (P : Params) (q : Bool) (e : SV) (t : Str) (b : Str) (i p : Int) (k : Kt) : ev (cfR P rdEnd) 60 (zAB s700).names (.sts zAI) { loc := [("self", .obj 0), ("quoted", (.bool q)), ("escapedstate", e)], led := zAC (.str "a") (.str t) i b p [] } k = (sio b p = sio b p ∧ (b.length : Int) ≤ p ∧ k .brk { loc := [("self", .obj 0), ("quoted", (.bool q)), ("escapedstate", e), ("nextchar", .str "")], led := zAC .none (.str t) i b p [.tup [.str "a", .str "c"]] }) := by
 kernel_rfl
theorem zQv (P : Params) (q : Bool) (e : SV) (t : Str) (b : Str) (i p : Int) (k : Kt) : ev (cfR P (rdSp (.str "\n"))) 60 (zAB s700).names (.sts zAI) { loc := [("self", .obj 0), ("quoted", (.bool q)), ("escapedstate", e)], led := zAC (.str "'") (.str t) i b p [] } k = (sio b p = sio b p ∧ SgAt b p (.str "\n") ∧ (t.length + 1 ≤ sizeLine ∧ k .next { loc := [("self", .obj 0), ("quoted", (.bool true)), ("escapedstate", e), ("nextchar", (.str "\n"))], led := zAC (.str "'") (.str (t ++ "\n")) (i + 1) b (p + 1) [] })) := by
 kernel_rfl
theorem zQz (P : Params) (q : Bool) (e : SV) (t : Str) (b : Str) (i p : Int) (k : Kt) : ev (cfR P (rdSp (.str " "))) 60 (zAB s700).names (.sts zAI) { loc := [("self", .obj 0), ("quoted", (.bool q)), ("escapedstate", e)], led := zAC (.str "'") (.str t) i b p [] } k = (sio b p = sio b p ∧ SgAt b p (.str " ") ∧ (t.length + 1 ≤ sizeLine ∧ k .next { loc := [("self", .obj 0), ("quoted", (.bool true)), ("escapedstate", e), ("nextchar", (.str " "))], led := zAC (.str "'") (.str (t ++ " ")) i b (p + 1) [] })) := by
 kernel_rfl
theorem zQt (P : Params) (q : Bool) (e : SV) (t : Str) (b : Str) (i p : Int) (k : Kt) : ev (cfR P (rdSp (.str "\t"))) 60 (zAB s700).names (.sts zAI) { loc := [("self", .obj 0), ("quoted", (.bool q)), ("escapedstate", e)], led := zAC (.str "'") (.str t) i b p [] } k = (sio b p = sio b p ∧ SgAt b p (.str "\t") ∧ (t.length + 1 ≤ sizeLine ∧ k .next { loc := [("self", .obj 0), ("quoted", (.bool true)), ("escapedstate", e), ("nextchar", (.str "\t"))], led := zAC (.str "'") (.str (t ++ "\t")) i b (p + 1) [] })) := by
 kernel_rfl
theorem zQx (P : Params) (q : Bool) (e : SV) (t : Str) (b : Str) (i p : Int) (k : Kt) : ev (cfR P (rdSp (.str "\r"))) 60 (zAB s700).names (.sts zAI) { loc := [("self", .obj 0), ("quoted", (.bool q)), ("escapedstate", e)], led := zAC (.str "'") (.str t) i b p [] } k = (sio b p = sio b p ∧ SgAt b p (.str "\r") ∧ (t.length + 1 ≤ sizeLine ∧ k .next { loc := [("self", .obj 0), ("quoted", (.bool true)), ("escapedstate", e), ("nextchar", (.str "\r"))], led := zAC (.str "'") (.str (t ++ "\r")) i b (p + 1) [] })) := by
 kernel_rfl
theorem zQu (P : Params) (q : Bool) (e : SV) (t : Str) (b : Str) (i p : Int) (k : Kt) : ev (cfR P (rdSp (.str "'"))) 60 (zAB s700).names (.sts zAI) { loc := [("self", .obj 0), ("quoted", (.bool q)), ("escapedstate", e)], led := zAC (.str "'") (.str t) i b p [] } k = (sio b p = sio b p ∧ SgAt b p (.str "'") ∧ k .next { loc := [("self", .obj 0), ("quoted", (.bool true)), ("escapedstate", e), ("nextchar", (.str "'"))], led := zAC (.str "a") (.str t) i b (p + 1) [] }) := by
 kernel_rfl
theorem zQw (P : Params) (q : Bool) (e : SV) (t : Str) (b : Str) (i p : Int) (k : Kt) : ev (cfR P (rdSp (.str "\""))) 60 (zAB s700).names (.sts zAI) { loc := [("self", .obj 0), ("quoted", (.bool q)), ("escapedstate", e)], led := zAC (.str "'") (.str t) i b p [] } k = (sio b p = sio b p ∧ SgAt b p (.str "\"") ∧ (t.length + 1 ≤ sizeLine ∧ k .next { loc := [("self", .obj 0), ("quoted", (.bool true)), ("escapedstate", e), ("nextchar", (.str "\""))], led := zAC (.str "'") (.str (t ++ "\"")) i b (p + 1) [] })) := by
 kernel_rfl
theorem zQy (P : Params) (q : Bool) (e : SV) (t : Str) (b : Str) (i p : Int) (k : Kt) : ev (cfR P (rdSp (.str "\\"))) 60 (zAB s700).names (.sts zAI) { loc := [("self", .obj 0), ("quoted", (.bool q)), ("escapedstate", e)], led := zAC (.str "'") (.str t) i b p [] } k = (sio b p = sio b p ∧ SgAt b p (.str "\\") ∧ (t.length + 1 ≤ sizeLine ∧ k .next { loc := [("self", .obj 0), ("quoted", (.bool true)), ("escapedstate", e), ("nextchar", (.str "\\"))], led := zAC (.str "'") (.str (t ++ "\\")) i b (p + 1) [] })) := by
 kernel_rfl
theorem zIl (P : Params) (c : Nat) (q : Bool) (e : SV) (t : Str) (b : Str) (i p : Int) (k : Kt) : ev (cfR P (rdSp (.sg c esO (fsO true)))) 60 (zAB s700).names (.sts zAI) { loc := [("self", .obj 0), ("quoted", (.bool q)), ("escapedstate", e)], led := zAC (.str "'") (.str t) i b p [] } k = (sio b p = sio b p ∧ SgAt b p (.sg c esO (fsO true)) ∧ (t.length + 1 ≤ sizeLine ∧ k .next { loc := [("self", .obj 0), ("quoted", (.bool true)), ("escapedstate", e), ("nextchar", (.sg c esO (fsO true)))], led := zAC (.str "'") (.str (t ++ sgS c)) i b (p + 1) [] })) := by
 kernel_rfl
theorem zHb (P : Params) (c : Nat) (q : Bool) (e : SV) (t : Str) (b : Str) (i p : Int) (k : Kt) : ev (cfR P (rdSp (.sg c esO (fsO false)))) 60 (zAB s700).names (.sts zAI) { loc := [("self", .obj 0), ("quoted", (.bool q)), ("escapedstate", e)], led := zAC (.str "'") (.str t) i b p [] } k = (sio b p = sio b p ∧ SgAt b p (.sg c esO (fsO false)) ∧ (t.length + 1 ≤ sizeLine ∧ k .next { loc := [("self", .obj 0), ("quoted", (.bool true)), ("escapedstate", e), ("nextchar", (.sg c esO (fsO false)))], led := zAC (.str "'") (.str (t ++ sgS c)) i b (p + 1) [] })) := by
 kernel_rfl
theorem zRJ (P : Params) (q : Bool) (e : SV) (t : Str) (b : Str) (i p : Int) (k : Kt) : ev (cfR P (rdSp (.str "\n"))) 60 (zAB s700).names (.sts zAI) { loc := [("self", .obj 0), ("quoted", (.bool q)), ("escapedstate", e)], led := zAC (.str "\"") (.str t) i b p [] } k = (sio b p = sio b p ∧ SgAt b p (.str "\n") ∧ (t.length + 1 ≤ sizeLine ∧ k .next { loc := [("self", .obj 0), ("quoted", (.bool true)), ("escapedstate", e), ("nextchar", (.str "\n"))], led := zAC (.str "\"") (.str (t ++ "\n")) (i + 1) b (p + 1) [] })) := by
 kernel_rfl
theorem zRN (P : Params) (q : Bool) (e : SV) (t : Str) (b : Str) (i p : Int) (k : Kt) : ev (cfR P (rdSp (.str " "))) 60 (zAB s700).names (.sts zAI) { loc := [("self", .obj 0), ("quoted", (.bool q)), ("escapedstate", e)], led := zAC (.str "\"") (.str t) i b p [] } k = (sio b p = sio b p ∧ SgAt b p (.str " ") ∧ (t.length + 1 ≤ sizeLine ∧ k .next { loc := [("self", .obj 0), ("quoted", (.bool true)), ("escapedstate", e), ("nextchar", (.str " "))], led := zAC (.str "\"") (.str (t ++ " ")) i b (p + 1) [] })) := by
 kernel_rfl
theorem zRH (P : Params) (q : Bool) (e : SV) (t : Str) (b : Str) (i p : Int) (k : Kt) : ev (cfR P (rdSp (.str "\t"))) 60 (zAB s700).names (.sts zAI) { loc := [("self", .obj 0), ("quoted", (.bool q)), ("escapedstate", e)], led := zAC (.str "\"") (.str t) i b p [] } k = (sio b p = sio b p ∧ SgAt b p (.str "\t") ∧ (t.length + 1 ≤ sizeLine ∧ k .next { loc := [("self", .obj 0), ("quoted", (.bool true)), ("escapedstate", e), ("nextchar", (.str "\t"))], led := zAC (.str "\"") (.str (t ++ "\t")) i b (p + 1) [] })) := by
 kernel_rfl
theorem zRL (P : Params) (q : Bool) (e : SV) (t : Str) (b : Str) (i p : Int) (k : Kt) : ev (cfR P (rdSp (.str "\r"))) 60 (zAB s700).names (.sts zAI) { loc := [("self", .obj 0), ("quoted", (.bool q)), ("escapedstate", e)], led := zAC (.str "\"") (.str t) i b p [] } k = (sio b p = sio b p ∧ SgAt b p (.str "\r") ∧ (t.length + 1 ≤ sizeLine ∧ k .next { loc := [("self", .obj 0), ("quoted", (.bool true)), ("escapedstate", e), ("nextchar", (.str "\r"))], led := zAC (.str "\"") (.str (t ++ "\r")) i b (p + 1) [] })) := by
 kernel_rfl
theorem zRI (P : Params) (q : Bool) (e : SV) (t : Str) (b : Str) (i p : Int) (k : Kt) : ev (cfR P (rdSp (.str "'"))) 60 (zAB s700).names (.sts zAI) { loc := [("self", .obj 0), ("quoted", (.bool q)), ("escapedstate", e)], led := zAC (.str "\"") (.str t) i b p [] } k = (sio b p = sio b p ∧ SgAt b p (.str "'") ∧ (t.length + 1 ≤ sizeLine ∧ k .next { loc := [("self", .obj 0), ("quoted", (.bool true)), ("escapedstate", e), ("nextchar", (.str "'"))], led := zAC (.str "\"") (.str (t ++ "'")) i b (p + 1) [] })) := by
 kernel_rfl
theorem zRK (P : Params) (q : Bool) (e : SV) (t : Str) (b : Str) (i p : Int) (k : Kt) : ev (cfR P (rdSp (.str "\""))) 60 (zAB s700).names (.sts zAI) { loc := [("self", .obj 0), ("quoted", (.bool q)), ("escapedstate", e)], led := zAC (.str "\"") (.str t) i b p [] } k = (sio b p = sio b p ∧ SgAt b p (.str "\"") ∧ k .next { loc := [("self", .obj 0), ("quoted", (.bool true)), ("escapedstate", e), ("nextchar", (.str "\""))], led := zAC (.str "a") (.str t) i b (p + 1) [] }) := by
 kernel_rfl
theorem zRM (P : Params) (q : Bool) (e : SV) (t : Str) (b : Str) (i p : Int) (k : Kt) : ev (cfR P (rdSp (.str "\\"))) 60 (zAB s700).names (.sts zAI) { loc := [("self", .obj 0), ("quoted", (.bool q)), ("escapedstate", e)], led := zAC (.str "\"") (.str t) i b p [] } k = (sio b p = sio b p ∧ SgAt b p (.str "\\") ∧ k .next { loc := [("self", .obj 0), ("quoted", (.bool true)), ("escapedstate", (.str "\"")), ("nextchar", (.str "\\"))], led := zAC (.str "\\") (.str t) i b (p + 1) [] }) := by
 kernel_rfl
theorem zIn (P : Params) (c : Nat) (q : Bool) (e : SV) (t : Str) (b : Str) (i p : Int) (k : Kt) : ev (cfR P (rdSp (.sg c esO (fsO true)))) 60 (zAB s700).names (.sts zAI) { loc := [("self", .obj 0), ("quoted", (.bool q)), ("escapedstate", e)], led := zAC (.str "\"") (.str t) i b p [] } k = (sio b p = sio b p ∧ SgAt b p (.sg c esO (fsO true)) ∧ (t.length + 1 ≤ sizeLine ∧ k .next { loc := [("self", .obj 0), ("quoted", (.bool true)), ("escapedstate", e), ("nextchar", (.sg c esO (fsO true)))], led := zAC (.str "\"") (.str (t ++ sgS c)) i b (p + 1) [] })) := by
 kernel_rfl
theorem zHd (P : Params) (c : Nat) (q : Bool) (e : SV) (t : Str) (b : Str) (i p : Int) (k : Kt) : ev (cfR P (rdSp (.sg c esO (fsO false)))) 60 (zAB s700).names (.sts zAI) { loc := [("self", .obj 0), ("quoted", (.bool q)), ("escapedstate", e)], led := zAC (.str "\"") (.str t) i b p [] } k = (sio b p = sio b p ∧ SgAt b p (.sg c esO (fsO false)) ∧ (t.length + 1 ≤ sizeLine ∧ k .next { loc := [("self", .obj 0), ("quoted", (.bool true)), ("escapedstate", e), ("nextchar", (.sg c esO (fsO false)))], led := zAC (.str "\"") (.str (t ++ sgS c)) i b (p + 1) [] })) := by
 kernel_rfl
theorem zMA (P : Params) (q : Bool) (t : Str) (b : Str) (i p : Int) (k : Kt) : ev (cfR P (rdSp (.str "\n"))) 60 (zAB s700).names (.sts zAI) { loc := [("self", .obj 0), ("quoted", (.bool q)), ("escapedstate", (.str "a"))], led := zAC (.str "\\") (.str t) i b p [] } k = (sio b p = sio b p ∧ SgAt b p (.str "\n") ∧ (t.length + 1 ≤ sizeLine ∧ k .next { loc := [("self", .obj 0), ("quoted", (.bool q)), ("escapedstate", (.str "a")), ("nextchar", (.str "\n"))], led := zAC (.str "a") (.str (t ++ "\n")) (i + 1) b (p + 1) [] })) := by
 kernel_rfl
theorem zME (P : Params) (q : Bool) (t : Str) (b : Str) (i p : Int) (k : Kt) : ev (cfR P (rdSp (.str " "))) 60 (zAB s700).names (.sts zAI) { loc := [("self", .obj 0), ("quoted", (.bool q)), ("escapedstate", (.str "a"))], led := zAC (.str "\\") (.str t) i b p [] } k = (sio b p = sio b p ∧ SgAt b p (.str " ") ∧ (t.length + 1 ≤ sizeLine ∧ k .next { loc := [("self", .obj 0), ("quoted", (.bool q)), ("escapedstate", (.str "a")), ("nextchar", (.str " "))], led := zAC (.str "a") (.str (t ++ " ")) i b (p + 1) [] })) := by
 kernel_rfl
theorem zLy (P : Params) (q : Bool) (t : Str) (b : Str) (i p : Int) (k : Kt) : ev (cfR P (rdSp (.str "\t"))) 60 (zAB s700).names (.sts zAI) { loc := [("self", .obj 0), ("quoted", (.bool q)), ("escapedstate", (.str "a"))], led := zAC (.str "\\") (.str t) i b p [] } k = (sio b p = sio b p ∧ SgAt b p (.str "\t") ∧ (t.length + 1 ≤ sizeLine ∧ k .next { loc := [("self", .obj 0), ("quoted", (.bool q)), ("escapedstate", (.str "a")), ("nextchar", (.str "\t"))], led := zAC (.str "a") (.str (t ++ "\t")) i b (p + 1) [] })) := by
 kernel_rfl
theorem zMC (P : Params) (q : Bool) (t : Str) (b : Str) (i p : Int) (k : Kt) : ev (cfR P (rdSp (.str "\r"))) 60 (zAB s700).names (.sts zAI) { loc := [("self", .obj 0), ("quoted", (.bool q)), ("escapedstate", (.str "a"))], led := zAC (.str "\\") (.str t) i b p [] } k = (sio b p = sio b p ∧ SgAt b p (.str "\r") ∧ (t.length + 1 ≤ sizeLine ∧ k .next { loc := [("self", .obj 0), ("quoted", (.bool q)), ("escapedstate", (.str "a")), ("nextchar", (.str "\r"))], led := zAC (.str "a") (.str (t ++ "\r")) i b (p + 1) [] })) := by
 kernel_rfl
theorem zLz (P : Params) (q : Bool) (t : Str) (b : Str) (i p : Int) (k : Kt) : ev (cfR P (rdSp (.str "'"))) 60 (zAB s700).names (.sts zAI) { loc := [("self", .obj 0), ("quoted", (.bool q)), ("escapedstate", (.str "a"))], led := zAC (.str "\\") (.str t) i b p [] } k = (sio b p = sio b p ∧ SgAt b p (.str "'") ∧ (t.length + 1 ≤ sizeLine ∧ k .next { loc := [("self", .obj 0), ("quoted", (.bool q)), ("escapedstate", (.str "a")), ("nextchar", (.str "'"))], led := zAC (.str "a") (.str (t ++ "'")) i b (p + 1) [] })) := by
 kernel_rfl
theorem zMB (P : Params) (q : Bool) (t : Str) (b : Str) (i p : Int) (k : Kt) : ev (cfR P (rdSp (.str "\""))) 60 (zAB s700).names (.sts zAI) { loc := [("self", .obj 0), ("quoted", (.bool q)), ("escapedstate", (.str "a"))], led := zAC (.str "\\") (.str t) i b p [] } k = (sio b p = sio b p ∧ SgAt b p (.str "\"") ∧ (t.length + 1 ≤ sizeLine ∧ k .next { loc := [("self", .obj 0), ("quoted", (.bool q)), ("escapedstate", (.str "a")), ("nextchar", (.str "\""))], led := zAC (.str "a") (.str (t ++ "\"")) i b (p + 1) [] })) := by
 kernel_rfl
theorem zMD (P : Params) (q : Bool) (t : Str) (b : Str) (i p : Int) (k : Kt) : ev (cfR P (rdSp (.str "\\"))) 60 (zAB s700).names (.sts zAI) { loc := [("self", .obj 0), ("quoted", (.bool q)), ("escapedstate", (.str "a"))], led := zAC (.str "\\") (.str t) i b p [] } k = (sio b p = sio b p ∧ SgAt b p (.str "\\") ∧ (t.length + 1 ≤ sizeLine ∧ k .next { loc := [("self", .obj 0), ("quoted", (.bool q)), ("escapedstate", (.str "a")), ("nextchar", (.str "\\"))], led := zAC (.str "a") (.str (t ++ "\\")) i b (p + 1) [] })) := by
 kernel_rfl
theorem zGp (P : Params) (c : Nat) (q : Bool) (t : Str) (b : Str) (i p : Int) (k : Kt) : ev (cfR P (rdSp (.sg c esO (fsO true)))) 60 (zAB s700).names (.sts zAI) { loc := [("self", .obj 0), ("quoted", (.bool q)), ("escapedstate", (.str "a"))], led := zAC (.str "\\") (.str t) i b p [] } k = (sio b p = sio b p ∧ SgAt b p (.sg c esO (fsO true)) ∧ (t.length + 1 ≤ sizeLine ∧ k .next { loc := [("self", .obj 0), ("quoted", (.bool q)), ("escapedstate", (.str "a")), ("nextchar", (.sg c esO (fsO true)))], led := zAC (.str "a") (.str (t ++ sgS c)) i b (p + 1) [] })) := by
 kernel_rfl
theorem zFo (P : Params) (c : Nat) (q : Bool) (t : Str) (b : Str) (i p : Int) (k : Kt) : ev (cfR P (rdSp (.sg c esO (fsO false)))) 60 (zAB s700).names (.sts zAI) { loc := [("self", .obj 0), ("quoted", (.bool q)), ("escapedstate", (.str "a"))], led := zAC (.str "\\") (.str t) i b p [] } k = (sio b p = sio b p ∧ SgAt b p (.sg c esO (fsO false)) ∧ (t.length + 1 ≤ sizeLine ∧ k .next { loc := [("self", .obj 0), ("quoted", (.bool q)), ("escapedstate", (.str "a")), ("nextchar", (.sg c esO (fsO false)))], led := zAC (.str "a") (.str (t ++ sgS c)) i b (p + 1) [] })) := by
 kernel_rfl
theorem zKW (P : Params) (q : Bool) (t : Str) (b : Str) (i p : Int) (k : Kt) : ev (cfR P (rdSp (.str "\n"))) 60 (zAB s700).names (.sts zAI) { loc := [("self", .obj 0), ("quoted", (.bool q)), ("escapedstate", (.str "\""))], led := zAC (.str "\\") (.str t) i b p [] } k = (sio b p = sio b p ∧ SgAt b p (.str "\n") ∧ (t.length + 1 ≤ sizeLine ∧ ((t ++ "\\").length + 1 ≤ sizeLine ∧ k .next { loc := [("self", .obj 0), ("quoted", (.bool q)), ("escapedstate", (.str "\"")), ("nextchar", (.str "\n"))], led := zAC (.str "\"") (.str (t ++ "\\" ++ "\n")) (i + 1) b (p + 1) [] }))) := by
 kernel_rfl
theorem zKa (P : Params) (q : Bool) (t : Str) (b : Str) (i p : Int) (k : Kt) : ev (cfR P (rdSp (.str " "))) 60 (zAB s700).names (.sts zAI) { loc := [("self", .obj 0), ("quoted", (.bool q)), ("escapedstate", (.str "\""))], led := zAC (.str "\\") (.str t) i b p [] } k = (sio b p = sio b p ∧ SgAt b p (.str " ") ∧ (t.length + 1 ≤ sizeLine ∧ ((t ++ "\\").length + 1 ≤ sizeLine ∧ k .next { loc := [("self", .obj 0), ("quoted", (.bool q)), ("escapedstate", (.str "\"")), ("nextchar", (.str " "))], led := zAC (.str "\"") (.str (t ++ "\\" ++ " ")) i b (p + 1) [] }))) := by
 kernel_rfl
theorem zKU (P : Params) (q : Bool) (t : Str) (b : Str) (i p : Int) (k : Kt) : ev (cfR P (rdSp (.str "\t"))) 60 (zAB s700).names (.sts zAI) { loc := [("self", .obj 0), ("quoted", (.bool q)), ("escapedstate", (.str "\""))], led := zAC (.str "\\") (.str t) i b p [] } k = (sio b p = sio b p ∧ SgAt b p (.str "\t") ∧ (t.length + 1 ≤ sizeLine ∧ ((t ++ "\\").length + 1 ≤ sizeLine ∧ k .next { loc := [("self", .obj 0), ("quoted", (.bool q)), ("escapedstate", (.str "\"")), ("nextchar", (.str "\t"))], led := zAC (.str "\"") (.str (t ++ "\\" ++ "\t")) i b (p + 1) [] }))) := by
 kernel_rfl
theorem zKY (P : Params) (q : Bool) (t : Str) (b : Str) (i p : Int) (k : Kt) : ev (cfR P (rdSp (.str "\r"))) 60 (zAB s700).names (.sts zAI) { loc := [("self", .obj 0), ("quoted", (.bool q)), ("escapedstate", (.str "\""))], led := zAC (.str "\\") (.str t) i b p [] } k = (sio b p = sio b p ∧ SgAt b p (.str "\r") ∧ (t.length + 1 ≤ sizeLine ∧ ((t ++ "\\").length + 1 ≤ sizeLine ∧ k .next { loc := [("self", .obj 0), ("quoted", (.bool q)), ("escapedstate", (.str "\"")), ("nextchar", (.str "\r"))], led := zAC (.str "\"") (.str (t ++ "\\" ++ "\r")) i b (p + 1) [] }))) := by
 kernel_rfl
theorem zKV (P : Params) (q : Bool) (t : Str) (b : Str) (i p : Int) (k : Kt) : ev (cfR P (rdSp (.str "'"))) 60 (zAB s700).names (.sts zAI) { loc := [("self", .obj 0), ("quoted", (.bool q)), ("escapedstate", (.str "\""))], led := zAC (.str "\\") (.str t) i b p [] } k = (sio b p = sio b p ∧ SgAt b p (.str "'") ∧ (t.length + 1 ≤ sizeLine ∧ ((t ++ "\\").length + 1 ≤ sizeLine ∧ k .next { loc := [("self", .obj 0), ("quoted", (.bool q)), ("escapedstate", (.str "\"")), ("nextchar", (.str "'"))], led := zAC (.str "\"") (.str (t ++ "\\" ++ "'")) i b (p + 1) [] }))) := by
 kernel_rfl
theorem zKX (P : Params) (q : Bool) (t : Str) (b : Str) (i p : Int) (k : Kt) : ev (cfR P (rdSp (.str "\""))) 60 (zAB s700).names (.sts zAI) { loc := [("self", .obj 0), ("quoted", (.bool q)), ("escapedstate", (.str "\""))], led := zAC (.str "\\") (.str t) i b p [] } k = (sio b p = sio b p ∧ SgAt b p (.str "\"") ∧ (t.length + 1 ≤ sizeLine ∧ k .next { loc := [("self", .obj 0), ("quoted", (.bool q)), ("escapedstate", (.str "\"")), ("nextchar", (.str "\""))], led := zAC (.str "\"") (.str (t ++ "\"")) i b (p + 1) [] })) := by
 kernel_rfl
theorem zKZ (P : Params) (q : Bool) (t : Str) (b : Str) (i p : Int) (k : Kt) : ev (cfR P (rdSp (.str "\\"))) 60 (zAB s700).names (.sts zAI) { loc := [("self", .obj 0), ("quoted", (.bool q)), ("escapedstate", (.str "\""))], led := zAC (.str "\\") (.str t) i b p [] } k = (sio b p = sio b p ∧ SgAt b p (.str "\\") ∧ (t.length + 1 ≤ sizeLine ∧ k .next { loc := [("self", .obj 0), ("quoted", (.bool q)), ("escapedstate", (.str "\"")), ("nextchar", (.str "\\"))], led := zAC (.str "\"") (.str (t ++ "\\")) i b (p + 1) [] })) := by
 kernel_rfl
theorem zFn (P : Params) (c : Nat) (q : Bool) (t : Str) (b : Str) (i p : Int) (k : Kt) : ev (cfR P (rdSp (.sg c esO (fsO true)))) 60 (zAB s700).names (.sts zAI) { loc := [("self", .obj 0), ("quoted", (.bool q)), ("escapedstate", (.str "\""))], led := zAC (.str "\\") (.str t) i b p [] } k = (sio b p = sio b p ∧ SgAt b p (.sg c esO (fsO true)) ∧ (t.length + 1 ≤ sizeLine ∧ ((t ++ "\\").length + 1 ≤ sizeLine ∧ k .next { loc := [("self", .obj 0), ("quoted", (.bool q)), ("escapedstate", (.str "\"")), ("nextchar", (.sg c esO (fsO true)))], led := zAC (.str "\"") (.str (t ++ "\\" ++ sgS c)) i b (p + 1) [] }))) := by
 kernel_rfl
theorem zEp (P : Params) (c : Nat) (q : Bool) (t : Str) (b : Str) (i p : Int) (k : Kt) : ev (cfR P (rdSp (.sg c esO (fsO false)))) 60 (zAB s700).names (.sts zAI) { loc := [("self", .obj 0), ("quoted", (.bool q)), ("escapedstate", (.str "\""))], led := zAC (.str "\\") (.str t) i b p [] } k = (sio b p = sio b p ∧ SgAt b p (.sg c esO (fsO false)) ∧ (t.length + 1 ≤ sizeLine ∧ ((t ++ "\\").length + 1 ≤ sizeLine ∧ k .next { loc := [("self", .obj 0), ("quoted", (.bool q)), ("escapedstate", (.str "\"")), ("nextchar", (.sg c esO (fsO false)))], led := zAC (.str "\"") (.str (t ++ "\\" ++ sgS c)) i b (p + 1) [] }))) := by
 kernel_rfl
noncomputable def tx (l : List Nat) : Str := ⟨l.toArray⟩
theorem zAF (l : List Nat) : (tx l).length = l.length := by simp [tx, Str.length]
theorem zGB (c : Nat) : tx [c] = sgS c := rfl
theorem zAP (a b : List Nat) : tx a ++ tx b = tx (a ++ b) := by
 show Str.mk _ = Str.mk _
 simp [tx]
theorem zEZ (l : List Nat) {a b : Nat} (hab : a ≤ b) (hb : b ≤ l.length) : Txt.slice (tx l) (some (a : Int)) (some (b : Int)) = tx ((l.drop a).take (b - a)) := by
 unfold Txt.slice
 have hl : (tx l).length = l.length := zAF l
 have len : (PySem.Builtin.Str.strSliceIndices (some (a : Int)) (some (b : Int)) 1 (tx l).length).length = b - a := by
  rw [StrLaws.strSliceIndices_plain hab (by rw [hl]; exact hb)]; simp
 split
 ·rename_i h
  rw [Bool.and_eq_true] at h
  have e := eq_of_beq h.2
  rw [len, hl] at e
  have h1 : a = 0 := by omega
  have h2 : b - a = l.length := e
  subst h1
  rw [h2, List.drop_zero, List.take_length]
 ·rw [StrLaws.sliced_plain (tx l) hab (by rw [hl]; exact hb)]
  rfl
theorem zJk (pre : List Nat) (c : Nat) (r : List Nat) : Txt.slice (tx (pre ++ c :: r)) (some (pre.length : Int)) (some ((pre.length : Int) + 1)) = sgS c := by
 have := zEZ (pre ++ c :: r) (a := pre.length) (b := pre.length + 1) (by lia) (by simp)
 rw [show ((pre.length + 1 : Nat) : Int) = (pre.length : Int) + 1 by lia] at this
 rw [this, List.drop_left, Nat.add_sub_cancel_left, List.take_succ_cons, List.take_zero]
 rfl
inductive LQ where
 | sp | a | sq | dq | ea | ed
noncomputable def LQ.sv : LQ → SV
 | .sp => .str " "
 | .a => .str "a"
 | .sq => .str "'"
 | .dq => .str "\""
 | .ea => .str "\\"
 | .ed => .str "\\"
noncomputable def ws (c : Nat) : Bool := c == 32 || c == 9 || c == 13 || c == 10
noncomputable def nl (c : Nat) : Int := if c = 10 then 1 else 0
structure LR where
 q : Option LQ
 quoted : Bool
 tok : List Nat
 e : Str
 line : Int
 rest : List Nat
noncomputable def go : List Nat → LQ → Bool → List Nat → Str → Int → Option LR
 | [], .sp, _, _, e, i => some ⟨none, false, [], e, i, []⟩
 | [], .a, q, t, e, i => some ⟨none, q, t, e, i, []⟩
 | [], _, _, _, _, _ => none
 | c :: r, .sp, _, _, e, i =>
  if ws c then go r .sp false [] e (i + nl c)
  else if c = 39 then go r .sq false [] e i
  else if c = 34 then go r .dq false [] e i
  else if c = 92 then go r .ea false [] "a" i
  else go r .a false [c] e i
 | c :: r, .a, q, t, e, i =>
  if ws c then (if t ≠ [] ∨ q = true then some ⟨some .sp, q, t, e, i + nl c, r⟩ else go r .sp false [] e (i + nl c))
  else if c = 39 then go r .sq q t e i
  else if c = 34 then go r .dq q t e i
  else if c = 92 then go r .ea q t "a" i
  else go r .a q (t ++ [c]) e i
 | c :: r, .sq, _, t, e, i => if c = 39 then go r .a true t e i else go r .sq true (t ++ [c]) e (i + nl c)
 | c :: r, .dq, _, t, e, i => if c = 34 then go r .a true t e i else if c = 92 then go r .ed true t "\"" i else go r .dq true (t ++ [c]) e (i + nl c)
 | c :: r, .ea, q, t, _, i => go r .a q (t ++ [c]) "a" (i + nl c)
 | c :: r, .ed, q, t, _, i => if c = 92 ∨ c = 34 then go r .dq q (t ++ [c]) "\"" (i + nl c) else go r .dq q (t ++ [92, c]) "\"" (i + nl c)
theorem zJd {loc more : List (Str × SV)} {sv : SV} {t b : Str} {i p : Int} {extra : List SO} (hs : zAe sv) (hl : okF 4 loc) :
  Trim 4 ⟨loc ++ more, zAC sv (.str t) i b p extra⟩ ⟨loc, zAC sv (.str t) i b p []⟩ := by
 have h4 := zQK (n := 4) hs
 refine ⟨fun x y h => ⟨y, zFI h, zGq (zFE hl _ (zCs h))⟩, ?_⟩
 have e1 : ∀ k, k < 4 → okV 4 (.obj k) := fun k h => h
 refine .cons (.inst (zFV ?_)) (.cons (.inst (zFV ?_)) (.cons .raw (.cons .raw .nil)))
 ·exact ⟨e1 1 (by lia), trivial, trivial, trivial, trivial, trivial, trivial, trivial, trivial, trivial, trivial, h4, e1 2 (by lia), trivial, trivial, trivial, e1 3 (by lia), trivial, trivial, trivial⟩
 ·exact ⟨trivial, trivial, trivial, trivial⟩
theorem zDs (c : Nat) (b : Str) : inB (sgS c) b = decide (c ∈ b.cps.toList) := StrLaws.found_one b c
theorem zGv (c d : Nat) : Fast.sEq (sgS c) (sgS d) = decide (c = d) := by
 rw [← zBm]
 by_cases h : c = d
 ·subst h; simp
 ·rw [decide_eq_false h]
  refine beq_eq_false_iff_ne.mpr fun e => h ?_
  have : (sgS c).cps = (sgS d).cps := by rw [e]
  simpa [sgS] using this
noncomputable def isW (c : Nat) : Bool := inB (sgS c) wch
theorem zDV : ("\n" : Str) = sgS 10 := by decide +kernel
theorem zEH : (" " : Str) = sgS 32 := by decide +kernel
theorem zED : ("\t" : Str) = sgS 9 := by decide +kernel
theorem zEG : ("\r" : Str) = sgS 13 := by decide +kernel
theorem zEE : ("'" : Str) = sgS 39 := by decide +kernel
theorem zEF : ("\"" : Str) = sgS 34 := by decide +kernel
theorem zDW : ("\\" : Str) = sgS 92 := by decide +kernel
structure Other (c : Nat) : Prop where
 nl : c ≠ 10
 bl : c ≠ 32
 tb : c ≠ 9
 cr : c ≠ 13
 sq : c ≠ 39
 dq : c ≠ 34
 bs : c ≠ 92
theorem zTv : (" \t\r\n" : Str).cps.toList = [32, 9, 13, 10] := by decide +kernel
theorem zTx : ("" : Str).cps.toList = [] := by decide +kernel
theorem zTy : ("\\" : Str).cps.toList = [92] := by decide +kernel
theorem zTw : ("'\"" : Str).cps.toList = [39, 34] := by decide +kernel
theorem zCQ {pre r : List Nat} {c : Nat} (o : Other c) : SgAt (tx (pre ++ c :: r)) pre.length (.sg c esO (fsO (isW c))) := by
 refine ⟨by lia, by rw [zAF]; simp; lia, by rw [zJk]; rfl, ?_, ?_⟩
 ·refine zAA ?_ (zAA ?_ (zAA ?_ (zAA ?_ zAD)))
  ·show Fast.sEq (sgS c) "\n" = false; rw [zDV, zGv]; exact decide_eq_false o.nl
  ·show Fast.sEq (sgS c) "'" = false; rw [zEE, zGv]; exact decide_eq_false o.sq
  ·show Fast.sEq (sgS c) "\"" = false; rw [zEF, zGv]; exact decide_eq_false o.dq
  ·show Fast.sEq (sgS c) "\\" = false; rw [zDW, zGv]; exact decide_eq_false o.bs
 ·refine zAA ?_ (zAA ?_ (zAA ?_ (zAA ?_ (zAA ?_ zAD))))
  ·show inB (sgS c) " \t\r\n" = false; rw [zDs, zTv]; exact decide_eq_false (by simp [o.nl, o.bl, o.tb, o.cr])
  ·show inB (sgS c) "" = false; rw [zDs, zTx]; exact decide_eq_false (by simp)
  ·show inB (sgS c) "\\" = false; rw [zDs, zTy]; exact decide_eq_false (by simp [o.bs])
  ·rfl
  ·show inB (sgS c) "'\"" = false; rw [zDs, zTw]; exact decide_eq_false (by simp [o.sq, o.dq])
theorem zAS {pre r : List Nat} {c : Nat} {s : Str} (e : s = sgS c) : SgAt (tx (pre ++ c :: r)) pre.length (.str s) := by
 refine ⟨by lia, by rw [zAF]; simp; lia, by rw [zJk, ← e]; rfl, trivial⟩
theorem cokR (w : World) (e : SpE) (he : SpOk w (cfR w.params e) e) : CfOk w (cfR w.params e) where
 fns := zAA ⟨zQT _, by kernel_rfl, zAR (by kernel_rfl)⟩ <| zAD
 cls := zAA (zGg _) <| zAA (zIV _) <| zAD
 globs := zAn (zNc _)
 sps := zAA he zAD
 hxs := zAD
 hss := zAD
noncomputable def zUI : Stmt → Expr
 | .While t _ _ _ => t
 | _ => default
noncomputable def zCT : Expr := zUI (stAt 2 (zAE s700))
section
variable {w : World} {F : Fm} {ads : Wd} {s : Shared} {Q : CR → Shared → Prop} {E : Value → Shared → Prop}
theorem zLx (P : Params) (e : SpE) (ns : List (Str × NameKind)) (st : St) (k : Kt) : ev (cfR P e) 60 ns (.tr zCT) st k = k (.b true) st := by kernel_rfl
theorem zPL {e : SpE} (he : SpOk w (cfR w.params e) e) (hF : F.sc.names = (zAB s700).names) (ok : FmOk (cfR w.params e) F) (hd : F.A.depth + 60 < recursionLimit) (hu : F.A.units + 8 * 60 < cLine) {st st' st'' : St} {r : SR} (hr : r = .next ∨ r = .cont)
  (hev : ∀ k : Kt, k r st' → ev (cfR w.params e) 60 (zAB s700).names (.sts zAI) st k) (hl : st.led.length = 4) (tr : Trim 4 st' st'') (R : Rep w F ads st s.heap)
  (next : ∀ z s', Rep w F (wa ads (⟨[], z⟩ : Wd)) st'' s'.heap → Nx F s s' → Goal w F (.wl zCT zAI) Q E s') : Goal w F (.wl zCT zAI) Q E s := by
 refine zLk (K := fun r' x => r' = r ∧ x = st'') (cokR w e he) ok hd hu (by rw [zLx]; exact ⟨rfl, rfl⟩) (by rw [hF]; exact hev _ ⟨st'', by rw [hl]; exact tr, rfl, rfl⟩) R ?_ ?_ ?_
 ·rintro r' x ⟨rfl, rfl⟩
  rcases hr with h | h
  ·exact .inl h
  ·exact .inr (.inl h)
 ·rintro x z s' h R' nx
  rcases h with ⟨_, rfl⟩ | ⟨_, rfl⟩ <;> exact next z s' R' nx
 ·rintro x z s' ⟨h, _⟩
  rcases hr with h' | h' <;> rw [h'] at h <;> cases h
theorem zMz {e : SpE} (he : SpOk w (cfR w.params e) e) (hF : F.sc.names = (zAB s700).names) (ok : FmOk (cfR w.params e) F) (hd : F.A.depth + 60 < recursionLimit) (hu : F.A.units + 8 * 60 < cLine) {st st' st'' : St}
  (hev : ∀ k : Kt, k .brk st' → ev (cfR w.params e) 60 (zAB s700).names (.sts zAI) st k) (hl : st.led.length = 4) (tr : Trim 4 st' st'') (R : Rep w F ads st s.heap)
  (brk : ∀ z s', Rep w F (wa ads (⟨[], z⟩ : Wd)) st'' s'.heap → Nx F s s' → Q (.fl .next) s') : Goal w F (.wl zCT zAI) Q E s := by
 refine zLk (K := fun r' x => r' = .brk ∧ x = st'') (cokR w e he) ok hd hu (by rw [zLx]; exact ⟨rfl, rfl⟩) (by rw [hF]; exact hev _ ⟨st'', by rw [hl]; exact tr, rfl, rfl⟩) R ?_ ?_ ?_
 ·rintro r' x ⟨rfl, rfl⟩
  exact .inr (.inr rfl)
 ·rintro x z s' h R' nx
  rcases h with ⟨h, _⟩ | ⟨h, _⟩ <;> cases h
 ·rintro x z s' ⟨_, rfl⟩ R' nx
  exact brk z s' R' nx
end
noncomputable abbrev lst (q : SV) (quoted : Bool) (t : List Nat) (e : Str) (i : Int) (b : Str) (p : Int) : St := ⟨[("self", .obj 0), ("quoted", .bool quoted), ("escapedstate", .str e)], zAC q (.str (tx t)) i b p []⟩
noncomputable def svq : Option LQ → SV
 | none => .none
 | some q => q.sv
noncomputable def escN : LQ → Nat
 | .ea => 1
 | .ed => 1
 | _ => 0
theorem zBH : ("" : Str) = tx [] := by decide +kernel
theorem zAG (q : LQ) : zAe q.sv := by cases q <;> trivial
theorem zAw (t : List Nat) (c : Nat) : tx t ++ sgS c = tx (t ++ [c]) := zAP t [c]
theorem zGn {c : Nat} (h : ws c = true) : c = 32 ∨ c = 9 ∨ c = 13 ∨ c = 10 := by
 unfold ws at h
 simpa only [Bool.or_eq_true, beq_iff_eq, or_assoc] using h
theorem zQL {c : Nat} (h : ¬ ws c = true) : c ≠ 32 ∧ c ≠ 9 ∧ c ≠ 13 ∧ c ≠ 10 :=
 ⟨fun e => h (by subst e; rfl), fun e => h (by subst e; rfl), fun e => h (by subst e; rfl), fun e => h (by subst e; rfl)⟩
section
variable {w : World} {F : Fm} {ads : Wd} {s : Shared} {Q : CR → Shared → Prop} {E : Value → Shared → Prop}
structure LexOk (w : World) (F : Fm) : Prop where
 names : F.sc.names = (zAB s700).names
 fm : FmOk (cf0 w.params) F
 d : F.A.depth + 60 < recursionLimit
 u : F.A.units + 8 * 60 < cLine
theorem zAH (L : LexOk w F) (x : SV) {q : SV} (q' : SV) (hq : zAe q') {quoted : Bool} (quoted' : Bool) {t : List Nat} (t' : List Nat) {e : Str} (e' : Str) {b : Str} {i : Int} (i' : Int) {p : Int} (p' : Int) (extra : List SO) {r : SR} (hr : r = .next ∨ r = .cont)
  (hev : ∀ k : Kt, k r ⟨[("self", .obj 0), ("quoted", .bool quoted'), ("escapedstate", .str e'), ("nextchar", x)], zAC q' (.str (tx t')) i' b p' extra⟩ → ev (cfR w.params (rdSp x)) 60 (zAB s700).names (.sts zAI) (lst q quoted t e i b p) k)
  (R : Rep w F ads (lst q quoted t e i b p) s.heap)
  (next : ∀ z s', Rep w F (wa ads (⟨[], z⟩ : Wd)) (lst q' quoted' t' e' i' b p') s'.heap → Nx F s s' → Goal w F (.wl zCT zAI) Q E s') : Goal w F (.wl zCT zAI) Q E s :=
 zPL (e := rdSp x) (zSy rfl rfl x) L.names (zAX (C := cf0 w.params) rfl L.fm (fun _ => rfl)) L.d L.u hr hev rfl (zJd (loc := [("self", .obj 0), ("quoted", .bool quoted'), ("escapedstate", .str e')]) (more := [("nextchar", x)]) hq ⟨by show 0 < 4; lia, trivial, trivial, trivial⟩) R next
theorem zNB (L : LexOk w F) {q : SV} (q' : SV) (hq : zAe q') {quoted : Bool} (quoted' : Bool) {t : List Nat} (t' : List Nat) {e : Str} (e' : Str) {b : Str} {i : Int} (i' : Int) {p : Int} (p' : Int) (extra : List SO)
  (hev : ∀ k : Kt, k .brk ⟨[("self", .obj 0), ("quoted", .bool quoted'), ("escapedstate", .str e'), ("nextchar", .str "")], zAC q' (.str (tx t')) i' b p' extra⟩ → ev (cfR w.params rdEnd) 60 (zAB s700).names (.sts zAI) (lst q quoted t e i b p) k)
  (R : Rep w F ads (lst q quoted t e i b p) s.heap)
  (brk : ∀ z s', Rep w F (wa ads (⟨[], z⟩ : Wd)) (lst q' quoted' t' e' i' b p') s'.heap → Nx F s s' → Q (.fl .next) s') : Goal w F (.wl zCT zAI) Q E s :=
 zMz (e := rdEnd) (zPA rfl rfl) L.names (zAX (C := cf0 w.params) rfl L.fm (fun _ => rfl)) L.d L.u hev rfl (zJd (loc := [("self", .obj 0), ("quoted", .bool quoted'), ("escapedstate", .str e')]) (more := [("nextchar", .str "")]) hq ⟨by show 0 < 4; lia, trivial, trivial, trivial⟩) R brk
theorem zKB (L : LexOk w F) (x : SV) {q : SV} (q' : SV) (hq : zAe q') {quoted : Bool} (quoted' : Bool) {t : List Nat} (t' : List Nat) {e : Str} (e' : Str) {b : Str} {i : Int} (i' : Int) {p : Int} (p' : Int) (extra : List SO)
  (hev : ∀ k : Kt, k .brk ⟨[("self", .obj 0), ("quoted", .bool quoted'), ("escapedstate", .str e'), ("nextchar", x)], zAC q' (.str (tx t')) i' b p' extra⟩ → ev (cfR w.params (rdSp x)) 60 (zAB s700).names (.sts zAI) (lst q quoted t e i b p) k)
  (R : Rep w F ads (lst q quoted t e i b p) s.heap)
  (brk : ∀ z s', Rep w F (wa ads (⟨[], z⟩ : Wd)) (lst q' quoted' t' e' i' b p') s'.heap → Nx F s s' → Q (.fl .next) s') : Goal w F (.wl zCT zAI) Q E s :=
 zMz (e := rdSp x) (zSy rfl rfl x) L.names (zAX (C := cf0 w.params) rfl L.fm (fun _ => rfl)) L.d L.u hev rfl (zJd (loc := [("self", .obj 0), ("quoted", .bool quoted'), ("escapedstate", .str e')]) (more := [("nextchar", x)]) hq ⟨by show 0 < 4; lia, trivial, trivial, trivial⟩) R brk
end
theorem zOb (t : List Nat) : tx t ++ ("\n" : Str) = tx (t ++ [10]) := by rw [zDV]; exact zAw t 10
theorem zOd (t : List Nat) : tx t ++ (" " : Str) = tx (t ++ [32]) := by rw [zEH]; exact zAw t 32
theorem zOa (t : List Nat) : tx t ++ ("\t" : Str) = tx (t ++ [9]) := by rw [zED]; exact zAw t 9
theorem zOc (t : List Nat) : tx t ++ ("\r" : Str) = tx (t ++ [13]) := by rw [zEG]; exact zAw t 13
theorem zRQ (t : List Nat) : tx t ++ ("'" : Str) = tx (t ++ [39]) := by rw [zEE]; exact zAw t 39
theorem zRR (t : List Nat) : tx t ++ ("\"" : Str) = tx (t ++ [34]) := by rw [zEF]; exact zAw t 34
theorem zCS (t : List Nat) : tx t ++ ("\\" : Str) = tx (t ++ [92]) := by rw [zDW]; exact zAw t 92
structure LInv (q : LQ) (quoted : Bool) (t : List Nat) (e : Str) (n : Nat) : Prop where
 sp : q = .sp → quoted = false ∧ t = []
 ea : q = .ea → e = "a"
 ed : q = .ed → e = "\""
 len : t.length + escN q ≤ n
theorem LInv.to {q' : LQ} {quoted' : Bool} {t' : List Nat} {e' : Str} {n : Nat} (ok : match q' with
  | .sp => quoted' = false ∧ t' = []
  | .ea => e' = "a"
  | .ed => e' = "\""
  | _ => True) (len : t'.length + escN q' ≤ n) : LInv q' quoted' t' e' n :=
 ⟨fun h => by subst h; exact ok, fun h => by subst h; exact ok, fun h => by subst h; exact ok, len⟩
theorem zBB (q : LQ) : escN q ≤ 1 := by cases q <;> decide
theorem ln0 {a n : Nat} (h : a ≤ 1) : ([] : List Nat).length + a ≤ n + 1 := by simp; lia
theorem ln1 {c n : Nat} : ([c] : List Nat).length + 0 ≤ n + 1 := by simp
theorem lnT {t : List Nat} {a b n : Nat} (h : t.length + a ≤ n) (hb : b ≤ 1) : t.length + b ≤ n + 1 := by lia
theorem lnS {t : List Nat} {c a n : Nat} (h : t.length + a ≤ n) : (t ++ [c]).length + 0 ≤ n + 1 := by simp; lia
theorem lnD {t : List Nat} {x c n : Nat} (h : t.length + 1 ≤ n) : (t ++ [x, c]).length + 0 ≤ n + 1 := by simp; omega
theorem zDQ (a r : Nat) : (((a + (r + 1) - r : Nat)) : Int) = (a : Int) + 1 := by lia
section
variable {w : World} {F : Fm} {Q : CR → Shared → Prop} {E : Value → Shared → Prop}
theorem zRu (L : LexOk w F) : ∀ (rest pre : List Nat) (q : LQ) (quoted : Bool) (t : List Nat) (e : Str) (i : Int) (lr : LR) (ads : Wd) (s : Shared), go rest q quoted t e i = some lr → LInv q quoted t e pre.length → (pre ++ rest).length ≤ sizeLine →
  Rep w F ads (lst q.sv quoted t e i (tx (pre ++ rest)) pre.length) s.heap →
  (∀ z s', Rep w F (wa ads (⟨[], z⟩ : Wd)) (lst (svq lr.q) lr.quoted lr.tok lr.e lr.line (tx (pre ++ rest)) ((pre ++ rest).length - lr.rest.length : Nat)) s'.heap → Nx F s s' → Q (.fl .next) s') → Goal w F (.wl zCT zAI) Q E s := by
 intro rest
 induction rest with
 | nil =>
  intro pre q quoted t e i lr ads s hg inv hlen R fin
  cases q with
  | sp =>
   obtain ⟨rfl, rfl⟩ := inv.sp rfl
   simp only [go, Option.some.injEq] at hg
   subst hg
   refine zNB L .none trivial false [] e i pre.length [] (fun k hk => ?_) R (fun z s' R' nx => fin z s' ?_ nx)
   ·show ev _ _ _ _ ⟨_, zAC (.str " ") (.str (tx [])) _ _ _ _⟩ _
    rw [← zBH, zOS]
    exact ⟨rfl, by rw [zAF]; simp, by rw [zBH]; exact hk⟩
   ·simpa [svq] using R'
  | a =>
   simp only [go, Option.some.injEq] at hg
   subst hg
   refine zNB L .none trivial quoted t e i pre.length [.tup [.str "a", .str "c"]] (fun k hk => ?_) R (fun z s' R' nx => fin z s' ?_ nx)
   ·show ev _ _ _ _ ⟨_, zAC (.str "a") (.str (tx t)) _ _ _ _⟩ _
    exact Eq.mpr (zRO ..) ⟨rfl, by rw [zAF]; simp, hk⟩
   ·simpa [svq] using R'
  | _ => simp [go] at hg
 | cons c r ih =>
  intro pre q quoted t e i lr ads s hg inv hlen R fin
  have nx : ∀ (q' : LQ) (quoted' : Bool) (t' : List Nat) (e' : Str) (i' : Int), go r q' quoted' t' e' i' = some lr → LInv q' quoted' t' e' (pre.length + 1) → ∀ z s', Rep w F (wa ads (⟨[], z⟩ : Wd)) (lst q'.sv quoted' t' e' i' (tx (pre ++ c :: r)) ((pre.length : Int) + 1)) s'.heap → Nx F s s' → Goal w F (.wl zCT zAI) Q E s' := by
   intro q' quoted' t' e' i' hg' inv' z s' R' nx'
   have e1 : (pre ++ [c]) ++ r = pre ++ c :: r := by simp
   have e2 : (((pre ++ [c]).length : Nat) : Int) = (pre.length : Int) + 1 := by simp
   refine ih (pre ++ [c]) q' quoted' t' e' i' lr (wa ads (⟨[], z⟩ : Wd)) s' hg' (by simpa using inv') (by rw [e1]; exact hlen) (by rw [e1, e2]; exact R') fun z' s'' R'' nx'' => ?_
   rw [e1, Wd.append_assoc] at R''
   exact fin (z ++ z') s'' R'' (nx'.trans nx'')
  cases q with
  | sp =>
   obtain ⟨rfl, rfl⟩ := inv.sp rfl
   by_cases hw : ws c = true
   ·rcases zGn hw with rfl | rfl | rfl | rfl
    ·replace hg : go r .sp false [] e (i + 0) = some lr := hg
     rw [Int.add_zero] at hg
     refine zAH L (.str " ") LQ.sp.sv (zAG .sp) false [] e i ((pre.length : Int) + 1) [] (r := .cont) (.inr rfl) (fun k hk => ?_) R (nx .sp false [] e i hg ?_)
     ·show ev _ _ _ _ ⟨_, zAC (.str " ") (.str (tx [])) _ _ _ _⟩ _
      rw [← zBH, zRG]
      exact ⟨rfl, zAS zEH, by rw [zBH]; exact hk⟩
     ·exact LInv.to ⟨rfl, rfl⟩ (ln0 (zBB _))
    ·replace hg : go r .sp false [] e (i + 0) = some lr := hg
     rw [Int.add_zero] at hg
     refine zAH L (.str "\t") LQ.sp.sv (zAG .sp) false [] e i ((pre.length : Int) + 1) [] (r := .cont) (.inr rfl) (fun k hk => ?_) R (nx .sp false [] e i hg ?_)
     ·show ev _ _ _ _ ⟨_, zAC (.str " ") (.str (tx [])) _ _ _ _⟩ _
      rw [← zBH, zRA]
      exact ⟨rfl, zAS zED, by rw [zBH]; exact hk⟩
     ·exact LInv.to ⟨rfl, rfl⟩ (ln0 (zBB _))
    ·replace hg : go r .sp false [] e (i + 0) = some lr := hg
     rw [Int.add_zero] at hg
     refine zAH L (.str "\r") LQ.sp.sv (zAG .sp) false [] e i ((pre.length : Int) + 1) [] (r := .cont) (.inr rfl) (fun k hk => ?_) R (nx .sp false [] e i hg ?_)
     ·show ev _ _ _ _ ⟨_, zAC (.str " ") (.str (tx [])) _ _ _ _⟩ _
      rw [← zBH, zRE]
      exact ⟨rfl, zAS zEG, by rw [zBH]; exact hk⟩
     ·exact LInv.to ⟨rfl, rfl⟩ (ln0 (zBB _))
    ·replace hg : go r .sp false [] e (i + 1) = some lr := hg
     refine zAH L (.str "\n") LQ.sp.sv (zAG .sp) false [] e (i + 1) ((pre.length : Int) + 1) [] (r := .cont) (.inr rfl) (fun k hk => ?_) R (nx .sp false [] e (i + 1) hg ?_)
     ·show ev _ _ _ _ ⟨_, zAC (.str " ") (.str (tx [])) _ _ _ _⟩ _
      rw [← zBH, zRC]
      exact ⟨rfl, zAS zDV, by rw [zBH]; exact hk⟩
     ·exact LInv.to ⟨rfl, rfl⟩ (ln0 (zBB _))
   ·obtain ⟨w1, w2, w3, w4⟩ := zQL hw
    by_cases h39 : c = 39
    ·subst h39
     replace hg : go r .sq false [] e i = some lr := hg
     refine zAH L (.str "'") LQ.sq.sv (zAG .sq) false [] e i ((pre.length : Int) + 1) [] (r := .next) (.inl rfl) (fun k hk => ?_) R (nx .sq false [] e i hg ?_)
     ·show ev _ _ _ _ ⟨_, zAC (.str " ") (.str (tx [])) _ _ _ _⟩ _
      rw [← zBH, zRB]
      exact ⟨rfl, zAS zEE, by rw [zBH]; exact hk⟩
     ·exact LInv.to trivial (ln0 (zBB _))
    by_cases h34 : c = 34
    ·subst h34
     replace hg : go r .dq false [] e i = some lr := hg
     refine zAH L (.str "\"") LQ.dq.sv (zAG .dq) false [] e i ((pre.length : Int) + 1) [] (r := .next) (.inl rfl) (fun k hk => ?_) R (nx .dq false [] e i hg ?_)
     ·show ev _ _ _ _ ⟨_, zAC (.str " ") (.str (tx [])) _ _ _ _⟩ _
      rw [← zBH, zRD]
      exact ⟨rfl, zAS zEF, by rw [zBH]; exact hk⟩
     ·exact LInv.to trivial (ln0 (zBB _))
    by_cases h92 : c = 92
    ·subst h92
     replace hg : go r .ea false [] "a" i = some lr := hg
     refine zAH L (.str "\\") LQ.ea.sv (zAG .ea) false [] "a" i ((pre.length : Int) + 1) [] (r := .next) (.inl rfl) (fun k hk => ?_) R (nx .ea false [] "a" i hg ?_)
     ·show ev _ _ _ _ ⟨_, zAC (.str " ") (.str (tx [])) _ _ _ _⟩ _
      rw [← zBH, zRF]
      exact ⟨rfl, zAS zDW, by rw [zBH]; exact hk⟩
     ·exact LInv.to rfl (ln0 (zBB _))
    have ho : Other c := ⟨w4, w1, w2, w3, h39, h34, h92⟩
    simp [go, hw, h39, h34, h92] at hg
    cases hW : isW c
    ·have sg := zCQ (pre := pre) (r := r) ho
     rw [hW] at sg
     refine zAH L (.sg c esO (fsO false)) LQ.a.sv (zAG .a) false [c] e i ((pre.length : Int) + 1) [] (r := .next) (.inl rfl) (fun k hk => ?_) R (nx .a false [c] e i hg ?_)
     ·show ev _ _ _ _ ⟨_, zAC (.str " ") (.str (tx [])) _ _ _ _⟩ _
      rw [← zBH, zHc]
      exact ⟨rfl, sg, hk⟩
     ·exact LInv.to trivial ln1
    ·have sg := zCQ (pre := pre) (r := r) ho
     rw [hW] at sg
     refine zAH L (.sg c esO (fsO true)) LQ.a.sv (zAG .a) false [c] e i ((pre.length : Int) + 1) [] (r := .next) (.inl rfl) (fun k hk => ?_) R (nx .a false [c] e i hg ?_)
     ·show ev _ _ _ _ ⟨_, zAC (.str " ") (.str (tx [])) _ _ _ _⟩ _
      rw [← zBH, zIm]
      exact ⟨rfl, sg, hk⟩
     ·exact LInv.to trivial ln1
  | a =>
   by_cases hw : ws c = true
   ·by_cases htq : t ≠ [] ∨ quoted = true
    ·have hb : ∀ A B : Prop, A → ifT (((tx t).length : Int) != 0) A (ifT quoted A B) := by
      intro A B a
      cases h1 : (((tx t).length : Int) != 0) with
      | true => exact a
      | false =>
       have : t = [] := by
        have z := bne_eq_false_iff_eq.mp h1
        rw [zAF] at z
        exact List.length_eq_zero_iff.mp (by lia)
       rcases htq with q | q
       ·exact (q this).elim
       ·rw [q]; exact a
     rcases zGn hw with rfl | rfl | rfl | rfl
     ·simp only [go, hw, if_true, if_pos htq, Option.some.injEq] at hg
      subst hg
      refine zKB L (.str " ") LQ.sp.sv (zAG .sp) quoted t e i ((pre.length : Int) + 1) [.tup [.str "a", .str "c"]] (fun k hk => ?_) R (fun z s' R' nx' => fin z s' ?_ nx')
      ·show ev _ _ _ _ ⟨_, zAC (.str "a") (.str (tx t)) _ _ _ _⟩ _
       exact Eq.mpr (zQC ..) ⟨rfl, zAS zEH, hb _ _ hk⟩
      ·simpa [svq, nl, zDQ] using R'
     ·simp only [go, hw, if_true, if_pos htq, Option.some.injEq] at hg
      subst hg
      refine zKB L (.str "\t") LQ.sp.sv (zAG .sp) quoted t e i ((pre.length : Int) + 1) [.tup [.str "a", .str "c"]] (fun k hk => ?_) R (fun z s' R' nx' => fin z s' ?_ nx')
      ·show ev _ _ _ _ ⟨_, zAC (.str "a") (.str (tx t)) _ _ _ _⟩ _
       exact Eq.mpr (zPz ..) ⟨rfl, zAS zED, hb _ _ hk⟩
      ·simpa [svq, nl, zDQ] using R'
     ·simp only [go, hw, if_true, if_pos htq, Option.some.injEq] at hg
      subst hg
      refine zKB L (.str "\r") LQ.sp.sv (zAG .sp) quoted t e i ((pre.length : Int) + 1) [.tup [.str "a", .str "c"]] (fun k hk => ?_) R (fun z s' R' nx' => fin z s' ?_ nx')
      ·show ev _ _ _ _ ⟨_, zAC (.str "a") (.str (tx t)) _ _ _ _⟩ _
       exact Eq.mpr (zQB ..) ⟨rfl, zAS zEG, hb _ _ hk⟩
      ·simpa [svq, nl, zDQ] using R'
     ·simp only [go, hw, if_true, if_pos htq, Option.some.injEq] at hg
      subst hg
      refine zKB L (.str "\n") LQ.sp.sv (zAG .sp) quoted t e (i + 1) ((pre.length : Int) + 1) [.tup [.str "a", .str "c"]] (fun k hk => ?_) R (fun z s' R' nx' => fin z s' ?_ nx')
      ·show ev _ _ _ _ ⟨_, zAC (.str "a") (.str (tx t)) _ _ _ _⟩ _
       exact Eq.mpr (zQA ..) ⟨rfl, zAS zDV, hb _ _ hk⟩
      ·simpa [svq, nl, zDQ] using R'
    ·have htq' : t = [] ∧ quoted = false := by
      refine ⟨Classical.byContradiction fun q => htq (.inl q), ?_⟩
      cases quoted with
      | false => rfl
      | true => exact (htq (.inr rfl)).elim
     obtain ⟨rfl, rfl⟩ := htq'
     rcases zGn hw with rfl | rfl | rfl | rfl
     ·replace hg : go r .sp false [] e (i + 0) = some lr := hg
      rw [Int.add_zero] at hg
      refine zAH L (.str " ") LQ.sp.sv (zAG .sp) false [] e i ((pre.length : Int) + 1) [.tup [.str "a", .str "c"]] (r := .cont) (.inr rfl) (fun k hk => ?_) R (nx .sp false [] e i hg ?_)
      ·show ev _ _ _ _ ⟨_, zAC (.str "a") (.str (tx [])) _ _ _ _⟩ _
       exact Eq.mpr (zQC ..) ⟨rfl, zAS zEH, hk⟩
      ·exact LInv.to ⟨rfl, rfl⟩ (ln0 (zBB _))
     ·replace hg : go r .sp false [] e (i + 0) = some lr := hg
      rw [Int.add_zero] at hg
      refine zAH L (.str "\t") LQ.sp.sv (zAG .sp) false [] e i ((pre.length : Int) + 1) [.tup [.str "a", .str "c"]] (r := .cont) (.inr rfl) (fun k hk => ?_) R (nx .sp false [] e i hg ?_)
      ·show ev _ _ _ _ ⟨_, zAC (.str "a") (.str (tx [])) _ _ _ _⟩ _
       exact Eq.mpr (zPz ..) ⟨rfl, zAS zED, hk⟩
      ·exact LInv.to ⟨rfl, rfl⟩ (ln0 (zBB _))
     ·replace hg : go r .sp false [] e (i + 0) = some lr := hg
      rw [Int.add_zero] at hg
      refine zAH L (.str "\r") LQ.sp.sv (zAG .sp) false [] e i ((pre.length : Int) + 1) [.tup [.str "a", .str "c"]] (r := .cont) (.inr rfl) (fun k hk => ?_) R (nx .sp false [] e i hg ?_)
      ·show ev _ _ _ _ ⟨_, zAC (.str "a") (.str (tx [])) _ _ _ _⟩ _
       exact Eq.mpr (zQB ..) ⟨rfl, zAS zEG, hk⟩
      ·exact LInv.to ⟨rfl, rfl⟩ (ln0 (zBB _))
     ·replace hg : go r .sp false [] e (i + 1) = some lr := hg
      refine zAH L (.str "\n") LQ.sp.sv (zAG .sp) false [] e (i + 1) ((pre.length : Int) + 1) [.tup [.str "a", .str "c"]] (r := .cont) (.inr rfl) (fun k hk => ?_) R (nx .sp false [] e (i + 1) hg ?_)
      ·show ev _ _ _ _ ⟨_, zAC (.str "a") (.str (tx [])) _ _ _ _⟩ _
       exact Eq.mpr (zQA ..) ⟨rfl, zAS zDV, hk⟩
      ·exact LInv.to ⟨rfl, rfl⟩ (ln0 (zBB _))
   ·obtain ⟨w1, w2, w3, w4⟩ := zQL hw
    by_cases h39 : c = 39
    ·subst h39
     replace hg : go r .sq quoted t e i = some lr := hg
     refine zAH L (.str "'") LQ.sq.sv (zAG .sq) quoted t e i ((pre.length : Int) + 1) [.tup [.str "a", .str "c"]] (r := .next) (.inl rfl) (fun k hk => ?_) R (nx .sq quoted t e i hg ?_)
     ·show ev _ _ _ _ ⟨_, zAC (.str "a") (.str (tx t)) _ _ _ _⟩ _
      exact Eq.mpr (zSq ..) ⟨rfl, zAS zEE, by exact hk⟩
     ·exact LInv.to trivial (lnT inv.len (zBB _))
    by_cases h34 : c = 34
    ·subst h34
     replace hg : go r .dq quoted t e i = some lr := hg
     refine zAH L (.str "\"") LQ.dq.sv (zAG .dq) quoted t e i ((pre.length : Int) + 1) [.tup [.str "a", .str "c"]] (r := .next) (.inl rfl) (fun k hk => ?_) R (nx .dq quoted t e i hg ?_)
     ·show ev _ _ _ _ ⟨_, zAC (.str "a") (.str (tx t)) _ _ _ _⟩ _
      exact Eq.mpr (zSr ..) ⟨rfl, zAS zEF, by exact hk⟩
     ·exact LInv.to trivial (lnT inv.len (zBB _))
    by_cases h92 : c = 92
    ·subst h92
     replace hg : go r .ea quoted t "a" i = some lr := hg
     refine zAH L (.str "\\") LQ.ea.sv (zAG .ea) quoted t "a" i ((pre.length : Int) + 1) [.tup [.str "a", .str "c"]] (r := .next) (.inl rfl) (fun k hk => ?_) R (nx .ea quoted t "a" i hg ?_)
     ·show ev _ _ _ _ ⟨_, zAC (.str "a") (.str (tx t)) _ _ _ _⟩ _
      exact Eq.mpr (zSs ..) ⟨rfl, zAS zDW, by exact hk⟩
     ·exact LInv.to rfl (lnT inv.len (zBB _))
    have ho : Other c := ⟨w4, w1, w2, w3, h39, h34, h92⟩
    simp [go, hw, h39, h34, h92] at hg
    cases hW : isW c
    ·have sg := zCQ (pre := pre) (r := r) ho
     rw [hW] at sg
     refine zAH L (.sg c esO (fsO false)) LQ.a.sv (zAG .a) quoted (t ++ [c]) e i ((pre.length : Int) + 1) [.tup [.str "a", .str "c"]] (r := .next) (.inl rfl) (fun k hk => ?_) R (nx .a quoted (t ++ [c]) e i hg ?_)
     ·show ev _ _ _ _ ⟨_, zAC (.str "a") (.str (tx t)) _ _ _ _⟩ _
      exact Eq.mpr (zIo ..) ⟨rfl, sg, by rw [zAF]; have := inv.len; simp [escN] at this hlen ⊢; lia, by rw [zAw]; exact hk⟩
     ·exact LInv.to trivial (lnS inv.len)
    ·have sg := zCQ (pre := pre) (r := r) ho
     rw [hW] at sg
     refine zAH L (.sg c esO (fsO true)) LQ.a.sv (zAG .a) quoted (t ++ [c]) e i ((pre.length : Int) + 1) [.tup [.str "a", .str "c"]] (r := .next) (.inl rfl) (fun k hk => ?_) R (nx .a quoted (t ++ [c]) e i hg ?_)
     ·show ev _ _ _ _ ⟨_, zAC (.str "a") (.str (tx t)) _ _ _ _⟩ _
      exact Eq.mpr (zKb ..) ⟨rfl, sg, by rw [zAF]; have := inv.len; simp [escN] at this hlen ⊢; lia, by rw [zAw]; exact hk⟩
     ·exact LInv.to trivial (lnS inv.len)
  | sq =>
   by_cases h10 : c = 10
   ·subst h10
    replace hg : go r .sq true (t ++ [10]) e (i + 1) = some lr := hg
    refine zAH L (.str "\n") LQ.sq.sv (zAG .sq) true (t ++ [10]) e (i + 1) ((pre.length : Int) + 1) [] (r := .next) (.inl rfl) (fun k hk => ?_) R (nx .sq true (t ++ [10]) e (i + 1) hg ?_)
    ·show ev _ _ _ _ ⟨_, zAC (.str "'") (.str (tx t)) _ _ _ _⟩ _
     exact Eq.mpr (zQv ..) ⟨rfl, zAS zDV, by rw [zAF]; have := inv.len; simp [escN] at this hlen ⊢; lia, by rw [zOb]; exact hk⟩
    ·exact LInv.to trivial (lnS inv.len)
   by_cases h32 : c = 32
   ·subst h32
    replace hg : go r .sq true (t ++ [32]) e (i + 0) = some lr := hg
    rw [Int.add_zero] at hg
    refine zAH L (.str " ") LQ.sq.sv (zAG .sq) true (t ++ [32]) e i ((pre.length : Int) + 1) [] (r := .next) (.inl rfl) (fun k hk => ?_) R (nx .sq true (t ++ [32]) e i hg ?_)
    ·show ev _ _ _ _ ⟨_, zAC (.str "'") (.str (tx t)) _ _ _ _⟩ _
     exact Eq.mpr (zQz ..) ⟨rfl, zAS zEH, by rw [zAF]; have := inv.len; simp [escN] at this hlen ⊢; lia, by rw [zOd]; exact hk⟩
    ·exact LInv.to trivial (lnS inv.len)
   by_cases h9 : c = 9
   ·subst h9
    replace hg : go r .sq true (t ++ [9]) e (i + 0) = some lr := hg
    rw [Int.add_zero] at hg
    refine zAH L (.str "\t") LQ.sq.sv (zAG .sq) true (t ++ [9]) e i ((pre.length : Int) + 1) [] (r := .next) (.inl rfl) (fun k hk => ?_) R (nx .sq true (t ++ [9]) e i hg ?_)
    ·show ev _ _ _ _ ⟨_, zAC (.str "'") (.str (tx t)) _ _ _ _⟩ _
     exact Eq.mpr (zQt ..) ⟨rfl, zAS zED, by rw [zAF]; have := inv.len; simp [escN] at this hlen ⊢; lia, by rw [zOa]; exact hk⟩
    ·exact LInv.to trivial (lnS inv.len)
   by_cases h13 : c = 13
   ·subst h13
    replace hg : go r .sq true (t ++ [13]) e (i + 0) = some lr := hg
    rw [Int.add_zero] at hg
    refine zAH L (.str "\r") LQ.sq.sv (zAG .sq) true (t ++ [13]) e i ((pre.length : Int) + 1) [] (r := .next) (.inl rfl) (fun k hk => ?_) R (nx .sq true (t ++ [13]) e i hg ?_)
    ·show ev _ _ _ _ ⟨_, zAC (.str "'") (.str (tx t)) _ _ _ _⟩ _
     exact Eq.mpr (zQx ..) ⟨rfl, zAS zEG, by rw [zAF]; have := inv.len; simp [escN] at this hlen ⊢; lia, by rw [zOc]; exact hk⟩
    ·exact LInv.to trivial (lnS inv.len)
   by_cases h39 : c = 39
   ·subst h39
    replace hg : go r .a true t e i = some lr := hg
    refine zAH L (.str "'") LQ.a.sv (zAG .a) true t e i ((pre.length : Int) + 1) [] (r := .next) (.inl rfl) (fun k hk => ?_) R (nx .a true t e i hg ?_)
    ·show ev _ _ _ _ ⟨_, zAC (.str "'") (.str (tx t)) _ _ _ _⟩ _
     exact Eq.mpr (zQu ..) ⟨rfl, zAS zEE, by exact hk⟩
    ·exact LInv.to trivial (lnT inv.len (zBB _))
   by_cases h34 : c = 34
   ·subst h34
    replace hg : go r .sq true (t ++ [34]) e (i + 0) = some lr := hg
    rw [Int.add_zero] at hg
    refine zAH L (.str "\"") LQ.sq.sv (zAG .sq) true (t ++ [34]) e i ((pre.length : Int) + 1) [] (r := .next) (.inl rfl) (fun k hk => ?_) R (nx .sq true (t ++ [34]) e i hg ?_)
    ·show ev _ _ _ _ ⟨_, zAC (.str "'") (.str (tx t)) _ _ _ _⟩ _
     exact Eq.mpr (zQw ..) ⟨rfl, zAS zEF, by rw [zAF]; have := inv.len; simp [escN] at this hlen ⊢; lia, by rw [zRR]; exact hk⟩
    ·exact LInv.to trivial (lnS inv.len)
   by_cases h92 : c = 92
   ·subst h92
    replace hg : go r .sq true (t ++ [92]) e (i + 0) = some lr := hg
    rw [Int.add_zero] at hg
    refine zAH L (.str "\\") LQ.sq.sv (zAG .sq) true (t ++ [92]) e i ((pre.length : Int) + 1) [] (r := .next) (.inl rfl) (fun k hk => ?_) R (nx .sq true (t ++ [92]) e i hg ?_)
    ·show ev _ _ _ _ ⟨_, zAC (.str "'") (.str (tx t)) _ _ _ _⟩ _
     exact Eq.mpr (zQy ..) ⟨rfl, zAS zDW, by rw [zAF]; have := inv.len; simp [escN] at this hlen ⊢; lia, by rw [zCS]; exact hk⟩
    ·exact LInv.to trivial (lnS inv.len)
   have ho : Other c := ⟨h10, h32, h9, h13, h39, h34, h92⟩
   simp [go, h39, h34, h92, nl, h10] at hg
   cases hW : isW c
   ·have sg := zCQ (pre := pre) (r := r) ho
    rw [hW] at sg
    refine zAH L (.sg c esO (fsO false)) LQ.sq.sv (zAG .sq) true (t ++ [c]) e i ((pre.length : Int) + 1) [] (r := .next) (.inl rfl) (fun k hk => ?_) R (nx .sq true (t ++ [c]) e i hg ?_)
    ·show ev _ _ _ _ ⟨_, zAC (.str "'") (.str (tx t)) _ _ _ _⟩ _
     exact Eq.mpr (zHb ..) ⟨rfl, sg, by rw [zAF]; have := inv.len; simp [escN] at this hlen ⊢; lia, by rw [zAw]; exact hk⟩
    ·exact LInv.to trivial (lnS inv.len)
   ·have sg := zCQ (pre := pre) (r := r) ho
    rw [hW] at sg
    refine zAH L (.sg c esO (fsO true)) LQ.sq.sv (zAG .sq) true (t ++ [c]) e i ((pre.length : Int) + 1) [] (r := .next) (.inl rfl) (fun k hk => ?_) R (nx .sq true (t ++ [c]) e i hg ?_)
    ·show ev _ _ _ _ ⟨_, zAC (.str "'") (.str (tx t)) _ _ _ _⟩ _
     exact Eq.mpr (zIl ..) ⟨rfl, sg, by rw [zAF]; have := inv.len; simp [escN] at this hlen ⊢; lia, by rw [zAw]; exact hk⟩
    ·exact LInv.to trivial (lnS inv.len)
  | dq =>
   by_cases h10 : c = 10
   ·subst h10
    replace hg : go r .dq true (t ++ [10]) e (i + 1) = some lr := hg
    refine zAH L (.str "\n") LQ.dq.sv (zAG .dq) true (t ++ [10]) e (i + 1) ((pre.length : Int) + 1) [] (r := .next) (.inl rfl) (fun k hk => ?_) R (nx .dq true (t ++ [10]) e (i + 1) hg ?_)
    ·show ev _ _ _ _ ⟨_, zAC (.str "\"") (.str (tx t)) _ _ _ _⟩ _
     exact Eq.mpr (zRJ ..) ⟨rfl, zAS zDV, by rw [zAF]; have := inv.len; simp [escN] at this hlen ⊢; lia, by rw [zOb]; exact hk⟩
    ·exact LInv.to trivial (lnS inv.len)
   by_cases h32 : c = 32
   ·subst h32
    replace hg : go r .dq true (t ++ [32]) e (i + 0) = some lr := hg
    rw [Int.add_zero] at hg
    refine zAH L (.str " ") LQ.dq.sv (zAG .dq) true (t ++ [32]) e i ((pre.length : Int) + 1) [] (r := .next) (.inl rfl) (fun k hk => ?_) R (nx .dq true (t ++ [32]) e i hg ?_)
    ·show ev _ _ _ _ ⟨_, zAC (.str "\"") (.str (tx t)) _ _ _ _⟩ _
     exact Eq.mpr (zRN ..) ⟨rfl, zAS zEH, by rw [zAF]; have := inv.len; simp [escN] at this hlen ⊢; lia, by rw [zOd]; exact hk⟩
    ·exact LInv.to trivial (lnS inv.len)
   by_cases h9 : c = 9
   ·subst h9
    replace hg : go r .dq true (t ++ [9]) e (i + 0) = some lr := hg
    rw [Int.add_zero] at hg
    refine zAH L (.str "\t") LQ.dq.sv (zAG .dq) true (t ++ [9]) e i ((pre.length : Int) + 1) [] (r := .next) (.inl rfl) (fun k hk => ?_) R (nx .dq true (t ++ [9]) e i hg ?_)
    ·show ev _ _ _ _ ⟨_, zAC (.str "\"") (.str (tx t)) _ _ _ _⟩ _
     exact Eq.mpr (zRH ..) ⟨rfl, zAS zED, by rw [zAF]; have := inv.len; simp [escN] at this hlen ⊢; lia, by rw [zOa]; exact hk⟩
    ·exact LInv.to trivial (lnS inv.len)
   by_cases h13 : c = 13
   ·subst h13
    replace hg : go r .dq true (t ++ [13]) e (i + 0) = some lr := hg
    rw [Int.add_zero] at hg
    refine zAH L (.str "\r") LQ.dq.sv (zAG .dq) true (t ++ [13]) e i ((pre.length : Int) + 1) [] (r := .next) (.inl rfl) (fun k hk => ?_) R (nx .dq true (t ++ [13]) e i hg ?_)
    ·show ev _ _ _ _ ⟨_, zAC (.str "\"") (.str (tx t)) _ _ _ _⟩ _
     exact Eq.mpr (zRL ..) ⟨rfl, zAS zEG, by rw [zAF]; have := inv.len; simp [escN] at this hlen ⊢; lia, by rw [zOc]; exact hk⟩
    ·exact LInv.to trivial (lnS inv.len)
   by_cases h39 : c = 39
   ·subst h39
    replace hg : go r .dq true (t ++ [39]) e (i + 0) = some lr := hg
    rw [Int.add_zero] at hg
    refine zAH L (.str "'") LQ.dq.sv (zAG .dq) true (t ++ [39]) e i ((pre.length : Int) + 1) [] (r := .next) (.inl rfl) (fun k hk => ?_) R (nx .dq true (t ++ [39]) e i hg ?_)
    ·show ev _ _ _ _ ⟨_, zAC (.str "\"") (.str (tx t)) _ _ _ _⟩ _
     exact Eq.mpr (zRI ..) ⟨rfl, zAS zEE, by rw [zAF]; have := inv.len; simp [escN] at this hlen ⊢; lia, by rw [zRQ]; exact hk⟩
    ·exact LInv.to trivial (lnS inv.len)
   by_cases h34 : c = 34
   ·subst h34
    replace hg : go r .a true t e i = some lr := hg
    refine zAH L (.str "\"") LQ.a.sv (zAG .a) true t e i ((pre.length : Int) + 1) [] (r := .next) (.inl rfl) (fun k hk => ?_) R (nx .a true t e i hg ?_)
    ·show ev _ _ _ _ ⟨_, zAC (.str "\"") (.str (tx t)) _ _ _ _⟩ _
     exact Eq.mpr (zRK ..) ⟨rfl, zAS zEF, by exact hk⟩
    ·exact LInv.to trivial (lnT inv.len (zBB _))
   by_cases h92 : c = 92
   ·subst h92
    replace hg : go r .ed true t "\"" i = some lr := hg
    refine zAH L (.str "\\") LQ.ed.sv (zAG .ed) true t "\"" i ((pre.length : Int) + 1) [] (r := .next) (.inl rfl) (fun k hk => ?_) R (nx .ed true t "\"" i hg ?_)
    ·show ev _ _ _ _ ⟨_, zAC (.str "\"") (.str (tx t)) _ _ _ _⟩ _
     exact Eq.mpr (zRM ..) ⟨rfl, zAS zDW, by exact hk⟩
    ·exact LInv.to rfl (lnT inv.len (zBB _))
   have ho : Other c := ⟨h10, h32, h9, h13, h39, h34, h92⟩
   simp [go, h39, h34, h92, nl, h10] at hg
   cases hW : isW c
   ·have sg := zCQ (pre := pre) (r := r) ho
    rw [hW] at sg
    refine zAH L (.sg c esO (fsO false)) LQ.dq.sv (zAG .dq) true (t ++ [c]) e i ((pre.length : Int) + 1) [] (r := .next) (.inl rfl) (fun k hk => ?_) R (nx .dq true (t ++ [c]) e i hg ?_)
    ·show ev _ _ _ _ ⟨_, zAC (.str "\"") (.str (tx t)) _ _ _ _⟩ _
     exact Eq.mpr (zHd ..) ⟨rfl, sg, by rw [zAF]; have := inv.len; simp [escN] at this hlen ⊢; lia, by rw [zAw]; exact hk⟩
    ·exact LInv.to trivial (lnS inv.len)
   ·have sg := zCQ (pre := pre) (r := r) ho
    rw [hW] at sg
    refine zAH L (.sg c esO (fsO true)) LQ.dq.sv (zAG .dq) true (t ++ [c]) e i ((pre.length : Int) + 1) [] (r := .next) (.inl rfl) (fun k hk => ?_) R (nx .dq true (t ++ [c]) e i hg ?_)
    ·show ev _ _ _ _ ⟨_, zAC (.str "\"") (.str (tx t)) _ _ _ _⟩ _
     exact Eq.mpr (zIn ..) ⟨rfl, sg, by rw [zAF]; have := inv.len; simp [escN] at this hlen ⊢; lia, by rw [zAw]; exact hk⟩
    ·exact LInv.to trivial (lnS inv.len)
  | ea =>
   have he := inv.ea rfl
   subst he
   by_cases h10 : c = 10
   ·subst h10
    replace hg : go r .a quoted (t ++ [10]) "a" (i + 1) = some lr := hg
    refine zAH L (.str "\n") LQ.a.sv (zAG .a) quoted (t ++ [10]) "a" (i + 1) ((pre.length : Int) + 1) [] (r := .next) (.inl rfl) (fun k hk => ?_) R (nx .a quoted (t ++ [10]) "a" (i + 1) hg ?_)
    ·show ev _ _ _ _ ⟨_, zAC (.str "\\") (.str (tx t)) _ _ _ _⟩ _
     exact Eq.mpr (zMA ..) ⟨rfl, zAS zDV, by rw [zAF]; have := inv.len; simp [escN] at this hlen ⊢; lia, by rw [zOb]; exact hk⟩
    ·exact LInv.to trivial (lnS inv.len)
   by_cases h32 : c = 32
   ·subst h32
    replace hg : go r .a quoted (t ++ [32]) "a" (i + 0) = some lr := hg
    rw [Int.add_zero] at hg
    refine zAH L (.str " ") LQ.a.sv (zAG .a) quoted (t ++ [32]) "a" i ((pre.length : Int) + 1) [] (r := .next) (.inl rfl) (fun k hk => ?_) R (nx .a quoted (t ++ [32]) "a" i hg ?_)
    ·show ev _ _ _ _ ⟨_, zAC (.str "\\") (.str (tx t)) _ _ _ _⟩ _
     exact Eq.mpr (zME ..) ⟨rfl, zAS zEH, by rw [zAF]; have := inv.len; simp [escN] at this hlen ⊢; lia, by rw [zOd]; exact hk⟩
    ·exact LInv.to trivial (lnS inv.len)
   by_cases h9 : c = 9
   ·subst h9
    replace hg : go r .a quoted (t ++ [9]) "a" (i + 0) = some lr := hg
    rw [Int.add_zero] at hg
    refine zAH L (.str "\t") LQ.a.sv (zAG .a) quoted (t ++ [9]) "a" i ((pre.length : Int) + 1) [] (r := .next) (.inl rfl) (fun k hk => ?_) R (nx .a quoted (t ++ [9]) "a" i hg ?_)
    ·show ev _ _ _ _ ⟨_, zAC (.str "\\") (.str (tx t)) _ _ _ _⟩ _
     exact Eq.mpr (zLy ..) ⟨rfl, zAS zED, by rw [zAF]; have := inv.len; simp [escN] at this hlen ⊢; lia, by rw [zOa]; exact hk⟩
    ·exact LInv.to trivial (lnS inv.len)
   by_cases h13 : c = 13
   ·subst h13
    replace hg : go r .a quoted (t ++ [13]) "a" (i + 0) = some lr := hg
    rw [Int.add_zero] at hg
    refine zAH L (.str "\r") LQ.a.sv (zAG .a) quoted (t ++ [13]) "a" i ((pre.length : Int) + 1) [] (r := .next) (.inl rfl) (fun k hk => ?_) R (nx .a quoted (t ++ [13]) "a" i hg ?_)
    ·show ev _ _ _ _ ⟨_, zAC (.str "\\") (.str (tx t)) _ _ _ _⟩ _
     exact Eq.mpr (zMC ..) ⟨rfl, zAS zEG, by rw [zAF]; have := inv.len; simp [escN] at this hlen ⊢; lia, by rw [zOc]; exact hk⟩
    ·exact LInv.to trivial (lnS inv.len)
   by_cases h39 : c = 39
   ·subst h39
    replace hg : go r .a quoted (t ++ [39]) "a" (i + 0) = some lr := hg
    rw [Int.add_zero] at hg
    refine zAH L (.str "'") LQ.a.sv (zAG .a) quoted (t ++ [39]) "a" i ((pre.length : Int) + 1) [] (r := .next) (.inl rfl) (fun k hk => ?_) R (nx .a quoted (t ++ [39]) "a" i hg ?_)
    ·show ev _ _ _ _ ⟨_, zAC (.str "\\") (.str (tx t)) _ _ _ _⟩ _
     exact Eq.mpr (zLz ..) ⟨rfl, zAS zEE, by rw [zAF]; have := inv.len; simp [escN] at this hlen ⊢; lia, by rw [zRQ]; exact hk⟩
    ·exact LInv.to trivial (lnS inv.len)
   by_cases h34 : c = 34
   ·subst h34
    replace hg : go r .a quoted (t ++ [34]) "a" (i + 0) = some lr := hg
    rw [Int.add_zero] at hg
    refine zAH L (.str "\"") LQ.a.sv (zAG .a) quoted (t ++ [34]) "a" i ((pre.length : Int) + 1) [] (r := .next) (.inl rfl) (fun k hk => ?_) R (nx .a quoted (t ++ [34]) "a" i hg ?_)
    ·show ev _ _ _ _ ⟨_, zAC (.str "\\") (.str (tx t)) _ _ _ _⟩ _
     exact Eq.mpr (zMB ..) ⟨rfl, zAS zEF, by rw [zAF]; have := inv.len; simp [escN] at this hlen ⊢; lia, by rw [zRR]; exact hk⟩
    ·exact LInv.to trivial (lnS inv.len)
   by_cases h92 : c = 92
   ·subst h92
    replace hg : go r .a quoted (t ++ [92]) "a" (i + 0) = some lr := hg
    rw [Int.add_zero] at hg
    refine zAH L (.str "\\") LQ.a.sv (zAG .a) quoted (t ++ [92]) "a" i ((pre.length : Int) + 1) [] (r := .next) (.inl rfl) (fun k hk => ?_) R (nx .a quoted (t ++ [92]) "a" i hg ?_)
    ·show ev _ _ _ _ ⟨_, zAC (.str "\\") (.str (tx t)) _ _ _ _⟩ _
     exact Eq.mpr (zMD ..) ⟨rfl, zAS zDW, by rw [zAF]; have := inv.len; simp [escN] at this hlen ⊢; lia, by rw [zCS]; exact hk⟩
    ·exact LInv.to trivial (lnS inv.len)
   have ho : Other c := ⟨h10, h32, h9, h13, h39, h34, h92⟩
   simp [go, h39, h34, h92, nl, h10] at hg
   cases hW : isW c
   ·have sg := zCQ (pre := pre) (r := r) ho
    rw [hW] at sg
    refine zAH L (.sg c esO (fsO false)) LQ.a.sv (zAG .a) quoted (t ++ [c]) "a" i ((pre.length : Int) + 1) [] (r := .next) (.inl rfl) (fun k hk => ?_) R (nx .a quoted (t ++ [c]) "a" i hg ?_)
    ·show ev _ _ _ _ ⟨_, zAC (.str "\\") (.str (tx t)) _ _ _ _⟩ _
     exact Eq.mpr (zFo ..) ⟨rfl, sg, by rw [zAF]; have := inv.len; simp [escN] at this hlen ⊢; lia, by rw [zAw]; exact hk⟩
    ·exact LInv.to trivial (lnS inv.len)
   ·have sg := zCQ (pre := pre) (r := r) ho
    rw [hW] at sg
    refine zAH L (.sg c esO (fsO true)) LQ.a.sv (zAG .a) quoted (t ++ [c]) "a" i ((pre.length : Int) + 1) [] (r := .next) (.inl rfl) (fun k hk => ?_) R (nx .a quoted (t ++ [c]) "a" i hg ?_)
    ·show ev _ _ _ _ ⟨_, zAC (.str "\\") (.str (tx t)) _ _ _ _⟩ _
     exact Eq.mpr (zGp ..) ⟨rfl, sg, by rw [zAF]; have := inv.len; simp [escN] at this hlen ⊢; lia, by rw [zAw]; exact hk⟩
    ·exact LInv.to trivial (lnS inv.len)
  | ed =>
   have he := inv.ed rfl
   subst he
   by_cases h10 : c = 10
   ·subst h10
    replace hg : go r .dq quoted (t ++ [92, 10]) "\"" (i + 1) = some lr := hg
    refine zAH L (.str "\n") LQ.dq.sv (zAG .dq) quoted (t ++ [92, 10]) "\"" (i + 1) ((pre.length : Int) + 1) [] (r := .next) (.inl rfl) (fun k hk => ?_) R (nx .dq quoted (t ++ [92, 10]) "\"" (i + 1) hg ?_)
    ·show ev _ _ _ _ ⟨_, zAC (.str "\\") (.str (tx t)) _ _ _ _⟩ _
     exact Eq.mpr (zKW ..) ⟨rfl, zAS zDV, by rw [zAF]; have := inv.len; simp [escN] at this hlen ⊢; lia, by rw [zCS, zAF]; have := inv.len; simp [escN] at this hlen ⊢; lia, by rw [zCS, zOb, List.append_assoc]; exact hk⟩
    ·exact LInv.to trivial (lnD inv.len)
   by_cases h32 : c = 32
   ·subst h32
    replace hg : go r .dq quoted (t ++ [92, 32]) "\"" (i + 0) = some lr := hg
    rw [Int.add_zero] at hg
    refine zAH L (.str " ") LQ.dq.sv (zAG .dq) quoted (t ++ [92, 32]) "\"" i ((pre.length : Int) + 1) [] (r := .next) (.inl rfl) (fun k hk => ?_) R (nx .dq quoted (t ++ [92, 32]) "\"" i hg ?_)
    ·show ev _ _ _ _ ⟨_, zAC (.str "\\") (.str (tx t)) _ _ _ _⟩ _
     exact Eq.mpr (zKa ..) ⟨rfl, zAS zEH, by rw [zAF]; have := inv.len; simp [escN] at this hlen ⊢; lia, by rw [zCS, zAF]; have := inv.len; simp [escN] at this hlen ⊢; lia, by rw [zCS, zOd, List.append_assoc]; exact hk⟩
    ·exact LInv.to trivial (lnD inv.len)
   by_cases h9 : c = 9
   ·subst h9
    replace hg : go r .dq quoted (t ++ [92, 9]) "\"" (i + 0) = some lr := hg
    rw [Int.add_zero] at hg
    refine zAH L (.str "\t") LQ.dq.sv (zAG .dq) quoted (t ++ [92, 9]) "\"" i ((pre.length : Int) + 1) [] (r := .next) (.inl rfl) (fun k hk => ?_) R (nx .dq quoted (t ++ [92, 9]) "\"" i hg ?_)
    ·show ev _ _ _ _ ⟨_, zAC (.str "\\") (.str (tx t)) _ _ _ _⟩ _
     exact Eq.mpr (zKU ..) ⟨rfl, zAS zED, by rw [zAF]; have := inv.len; simp [escN] at this hlen ⊢; lia, by rw [zCS, zAF]; have := inv.len; simp [escN] at this hlen ⊢; lia, by rw [zCS, zOa, List.append_assoc]; exact hk⟩
    ·exact LInv.to trivial (lnD inv.len)
   by_cases h13 : c = 13
   ·subst h13
    replace hg : go r .dq quoted (t ++ [92, 13]) "\"" (i + 0) = some lr := hg
    rw [Int.add_zero] at hg
    refine zAH L (.str "\r") LQ.dq.sv (zAG .dq) quoted (t ++ [92, 13]) "\"" i ((pre.length : Int) + 1) [] (r := .next) (.inl rfl) (fun k hk => ?_) R (nx .dq quoted (t ++ [92, 13]) "\"" i hg ?_)
    ·show ev _ _ _ _ ⟨_, zAC (.str "\\") (.str (tx t)) _ _ _ _⟩ _
     exact Eq.mpr (zKY ..) ⟨rfl, zAS zEG, by rw [zAF]; have := inv.len; simp [escN] at this hlen ⊢; lia, by rw [zCS, zAF]; have := inv.len; simp [escN] at this hlen ⊢; lia, by rw [zCS, zOc, List.append_assoc]; exact hk⟩
    ·exact LInv.to trivial (lnD inv.len)
   by_cases h39 : c = 39
   ·subst h39
    replace hg : go r .dq quoted (t ++ [92, 39]) "\"" (i + 0) = some lr := hg
    rw [Int.add_zero] at hg
    refine zAH L (.str "'") LQ.dq.sv (zAG .dq) quoted (t ++ [92, 39]) "\"" i ((pre.length : Int) + 1) [] (r := .next) (.inl rfl) (fun k hk => ?_) R (nx .dq quoted (t ++ [92, 39]) "\"" i hg ?_)
    ·show ev _ _ _ _ ⟨_, zAC (.str "\\") (.str (tx t)) _ _ _ _⟩ _
     exact Eq.mpr (zKV ..) ⟨rfl, zAS zEE, by rw [zAF]; have := inv.len; simp [escN] at this hlen ⊢; lia, by rw [zCS, zAF]; have := inv.len; simp [escN] at this hlen ⊢; lia, by rw [zCS, zRQ, List.append_assoc]; exact hk⟩
    ·exact LInv.to trivial (lnD inv.len)
   by_cases h34 : c = 34
   ·subst h34
    replace hg : go r .dq quoted (t ++ [34]) "\"" (i + 0) = some lr := hg
    rw [Int.add_zero] at hg
    refine zAH L (.str "\"") LQ.dq.sv (zAG .dq) quoted (t ++ [34]) "\"" i ((pre.length : Int) + 1) [] (r := .next) (.inl rfl) (fun k hk => ?_) R (nx .dq quoted (t ++ [34]) "\"" i hg ?_)
    ·show ev _ _ _ _ ⟨_, zAC (.str "\\") (.str (tx t)) _ _ _ _⟩ _
     exact Eq.mpr (zKX ..) ⟨rfl, zAS zEF, by rw [zAF]; have := inv.len; simp [escN] at this hlen ⊢; lia, by rw [zRR]; exact hk⟩
    ·exact LInv.to trivial (lnS inv.len)
   by_cases h92 : c = 92
   ·subst h92
    replace hg : go r .dq quoted (t ++ [92]) "\"" (i + 0) = some lr := hg
    rw [Int.add_zero] at hg
    refine zAH L (.str "\\") LQ.dq.sv (zAG .dq) quoted (t ++ [92]) "\"" i ((pre.length : Int) + 1) [] (r := .next) (.inl rfl) (fun k hk => ?_) R (nx .dq quoted (t ++ [92]) "\"" i hg ?_)
    ·show ev _ _ _ _ ⟨_, zAC (.str "\\") (.str (tx t)) _ _ _ _⟩ _
     exact Eq.mpr (zKZ ..) ⟨rfl, zAS zDW, by rw [zAF]; have := inv.len; simp [escN] at this hlen ⊢; lia, by rw [zCS]; exact hk⟩
    ·exact LInv.to trivial (lnS inv.len)
   have ho : Other c := ⟨h10, h32, h9, h13, h39, h34, h92⟩
   simp [go, h39, h34, h92, nl, h10] at hg
   cases hW : isW c
   ·have sg := zCQ (pre := pre) (r := r) ho
    rw [hW] at sg
    refine zAH L (.sg c esO (fsO false)) LQ.dq.sv (zAG .dq) quoted (t ++ [92, c]) "\"" i ((pre.length : Int) + 1) [] (r := .next) (.inl rfl) (fun k hk => ?_) R (nx .dq quoted (t ++ [92, c]) "\"" i hg ?_)
    ·show ev _ _ _ _ ⟨_, zAC (.str "\\") (.str (tx t)) _ _ _ _⟩ _
     exact Eq.mpr (zEp ..) ⟨rfl, sg, by rw [zAF]; have := inv.len; simp [escN] at this hlen ⊢; lia, by rw [zCS, zAF]; have := inv.len; simp [escN] at this hlen ⊢; lia, by rw [zCS, zAw, List.append_assoc]; exact hk⟩
    ·exact LInv.to trivial (lnD inv.len)
   ·have sg := zCQ (pre := pre) (r := r) ho
    rw [hW] at sg
    refine zAH L (.sg c esO (fsO true)) LQ.dq.sv (zAG .dq) quoted (t ++ [92, c]) "\"" i ((pre.length : Int) + 1) [] (r := .next) (.inl rfl) (fun k hk => ?_) R (nx .dq quoted (t ++ [92, c]) "\"" i hg ?_)
    ·show ev _ _ _ _ ⟨_, zAC (.str "\\") (.str (tx t)) _ _ _ _⟩ _
     exact Eq.mpr (zFn ..) ⟨rfl, sg, by rw [zAF]; have := inv.len; simp [escN] at this hlen ⊢; lia, by rw [zCS, zAF]; have := inv.len; simp [escN] at this hlen ⊢; lia, by rw [zCS, zAw, List.append_assoc]; exact hk⟩
    ·exact LInv.to trivial (lnD inv.len)
end
theorem zKT (P : Params) (e : SV) (b : Str) (i p : Int) (k : Kt) : ev (cfR P rdEnd) 60 (zAB s700).names (.sts zAI) { loc := [("self", .obj 0), ("quoted", .bool false), ("escapedstate", e)], led := zAC .none (.str "") i b p [] } k = (sio b p = sio b p ∧ (b.length : Int) ≤ p ∧ k .brk { loc := [("self", .obj 0), ("quoted", .bool false), ("escapedstate", e), ("nextchar", .str "")], led := zAC .none (.str "") i b p [] }) := by
 kernel_rfl
structure LexE where
 q : SV
 quoted : Bool
 tok : Str
 e : Str
 line : Int
 p : Int
inductive LexC : St → Str → LexE → Prop
 | run {pre rest : List Nat} {i : Int} {lr : LR} : go rest .sp false [] " " i = some lr → (pre ++ rest).length ≤ sizeLine →
   LexC (lst LQ.sp.sv false [] " " i (tx (pre ++ rest)) pre.length) (tx (pre ++ rest)) ⟨svq lr.q, lr.quoted, tx lr.tok, lr.e, lr.line, ((pre ++ rest).length - lr.rest.length : Nat)⟩
 | off {pre : List Nat} {i : Int} : pre.length ≤ sizeLine → LexC (lst .none false [] " " i (tx pre) pre.length) (tx pre) ⟨.none, false, tx [], " ", i, pre.length⟩
noncomputable def rtW : Stmt := stAt 2 (zAE s700)
noncomputable def wPos : Stmt → Pos
 | .While _ _ _ p => p
 | _ => default
noncomputable def zPO (b : Str) (x : LexE) : HkE Stmt := ⟨(wPos rtW).line, (wPos rtW).col, 80, rtW, fun ns st k => ns = (zAB s700).names ∧ LexC st b x ∧ k .next ⟨[("self", .obj 0), ("quoted", .bool x.quoted), ("escapedstate", .str x.e)], zAC x.q (.str x.tok) x.line b x.p []⟩⟩
theorem zSw : rtW = .While zCT zAI [] (wPos rtW) := by kernel_rfl
theorem zPN {w : World} {C : Cf} (hK : C.K = KK w.params) (hC : C.known = true) (b : Str) (x : LexE) : HsOk w C (zPO b x) := by
 intro F E ads st s k Q ok hd hu h R T
 obtain ⟨hn, hc, hk⟩ := h
 have L : LexOk w F := ⟨hn, zAX (by rw [hK]; rfl) ok (by first | exact fun _ => rfl | exact fun _ => by assumption | exact fun h => h), by have : (zPO b x).d = 80 := rfl; lia, by have : (zPO b x).d = 80 := rfl; lia⟩
 show Goal w F (.st rtW) Q E s
 rw [zSw]
 refine wpAny_While ?_
 cases hc with
 | run hg hl =>
  rename_i pre rest i lr
  refine zRu L rest pre .sp false [] " " i lr ads s hg ⟨fun _ => ⟨rfl, rfl⟩, (fun h => by cases h), (fun h => by cases h), by simp [escN]⟩ hl R fun z s' R' nx => ?_
  exact T .next _ ⟨[], z⟩ (.fl .next) s' hk R' nx trivial
 | off hl =>
  rename_i pre i
  refine zNB L .none trivial false [] " " i pre.length [] (fun k hk => ?_) R (fun z s' R' nx => ?_)
  ·show ev _ _ _ _ ⟨_, zAC .none (.str (tx [])) _ _ _ _⟩ _
   rw [← zBH, zKT]
   exact ⟨rfl, by rw [zAF]; simp, by rw [zBH]; exact hk⟩
  ·exact T .next _ ⟨[], z⟩ (.fl .next) s' hk R' nx trivial
noncomputable def s693 : Stmt := stAt 5 (zAK (stAt 22 B01))
noncomputable def f693 : FnE := ⟨693, 1, ["self"], [], zAE s693, zAB s693, "shlex.get_token", .ref 692, []⟩
noncomputable def f700 : FnE := ⟨700, 1, ["self"], [], zAE s700, zAB s700, "shlex.read_token", .ref 699, []⟩
theorem zTm (P : Params) : FnOk (KK P) f693 := FnOk.of (by kernel_rfl) (by kernel_rfl) ⟨_, _, _, _, (by kernel_rfl : (KK P).lookup 693 = some (o693 P)), rfl, rfl, fun _ _ => rfl, rfl, rfl, fun s vs X h => by
 obtain ⟨a, rfl⟩ := len1 h
 exact BindsTo.of_eq (by kernel_rfl)⟩
theorem zTl (P : Params) : FnOk (KK P) f700 := FnOk.of (by kernel_rfl) (by kernel_rfl) ⟨_, _, _, _, (by kernel_rfl : (KK P).lookup 700 = some (o700 P)), rfl, rfl, fun _ _ => rfl, rfl, rfl, fun s vs X h => by
 obtain ⟨a, rfl⟩ := len1 h
 exact BindsTo.of_eq (by kernel_rfl)⟩
noncomputable def cfT (P : Params) (b : Str) (x : LexE) : Cf where
 K := KK P
 globs := g01
 fns := [f693, f700]
 cls := [c597, c732]
 hss := [zPO b x]
theorem cokT (w : World) (b : Str) (x : LexE) : CfOk w (cfT w.params b x) where
 fns := zAA ⟨zTm _, by kernel_rfl, zAR (by kernel_rfl)⟩ <| zAA ⟨zTl _, by kernel_rfl, zAR (by kernel_rfl)⟩ <| zAD
 cls := zAA (zGg _) <| zAA (zIV _) <| zAD
 globs := zAn (zNc _)
 sps := zAD
 hxs := zAD
 hss := zAA (zPN rfl rfl b x) zAD
noncomputable def s729 : Stmt := stAt 10 (zAK (stAt 22 B01))
noncomputable def f729 : FnE := ⟨729, 1, ["self"], [], zAE s729, zAB s729, "shlex.__next__", .ref 728, []⟩
theorem zQS (P : Params) : FnOk (KK P) f729 := FnOk.of (by kernel_rfl) (by kernel_rfl) ⟨_, _, _, _, (by kernel_rfl : (KK P).lookup 729 = some (o729 P)), rfl, rfl, fun _ _ => rfl, rfl, rfl, fun s vs X h => by
 obtain ⟨a, rfl⟩ := len1 h
 exact BindsTo.of_eq (by kernel_rfl)⟩
theorem zUQ (P : Params) (b b0 : Str) (x : LexE) (q : SV) (i p : Int) (k : Kt) : ev (cfT P b x) 130 (zAB s729).names (.sts (zAE s729)) { loc := [("self", .obj 0)], led := zAC q (.str "") i b0 p [] } k =
   (rtW = rtW ∧ (zAB s700).names = (zAB s700).names ∧ LexC { loc := [("self", .obj 0), ("quoted", .bool false), ("escapedstate", .str " ")], led := zAC q (.str "") i b0 p [] } b x ∧
     ifT (!x.quoted) (ifT (Fast.sEq x.tok "") False
        (k (.ret (.str x.tok)) { loc := [("self", .obj 0), ("token", .str x.tok)], led := zAC x.q (.str "") x.line b x.p [] }))
      (k (.ret (.str x.tok)) { loc := [("self", .obj 0), ("token", .str x.tok)], led := zAC x.q (.str "") x.line b x.p [] })) := by
  kernel_rfl
noncomputable def zCt : Stmt → Expr
 | .If t _ _ _ => t
 | _ => default
noncomputable def zUc : Stmt → Pos
 | .If _ _ _ p => p
 | _ => default
noncomputable def zUO : Stmt → Pos
 | .Raise _ _ p => p
 | _ => default
noncomputable def raNm : Stmt → Pos
 | .Raise (some (.Name _ p)) _ _ => p
 | _ => default
noncomputable def zAV : Stmt → List Stmt
 | .If _ b _ _ => b
 | _ => []
noncomputable def nxIf : Stmt := stAt 1 (zAE s729)
theorem zRp : zAE s729 = stAt 0 (zAE s729) :: .If (zCt nxIf) [.Raise (some (.Name "StopIteration" (raNm (stAt 0 (zAV nxIf))))) none (zUO (stAt 0 (zAV nxIf)))] [] (zUc nxIf) :: (zAE s729).drop 2 := by kernel_rfl
theorem zTH (P : Params) (b b0 : Str) (x : LexE) (q : SV) (i p : Int) (k : Kt) : ev (cfT P b x) 130 (zAB s729).names (.st (stAt 0 (zAE s729))) { loc := [("self", .obj 0)], led := zAC q (.str "") i b0 p [] } k =
   (rtW = rtW ∧ (zAB s700).names = (zAB s700).names ∧ LexC { loc := [("self", .obj 0), ("quoted", .bool false), ("escapedstate", .str " ")], led := zAC q (.str "") i b0 p [] } b x ∧
     ifT (!x.quoted) (ifT (Fast.sEq x.tok "") (k .next { loc := [("self", .obj 0), ("token", .none)], led := zAC x.q (.str "") x.line b x.p [] })
        (k .next { loc := [("self", .obj 0), ("token", .str x.tok)], led := zAC x.q (.str "") x.line b x.p [] }))
      (k .next { loc := [("self", .obj 0), ("token", .str x.tok)], led := zAC x.q (.str "") x.line b x.p [] })) := by
  kernel_rfl
theorem zTG (P : Params) (b b0 : Str) (x : LexE) (q : SV) (i p : Int) (k : Kt) : ev (cfT P b x) 130 (zAB s729).names (.tr (zCt nxIf)) { loc := [("self", .obj 0), ("token", .none)], led := zAC q (.str "") i b0 p [] } k =
   k (.b true) { loc := [("self", .obj 0), ("token", .none)], led := zAC q (.str "") i b0 p [] } := by
  kernel_rfl
theorem okLx {q : SV} {t b : Str} {i p : Int} (hq : zAe q) : okL 4 (zAC q (.str t) i b p []) := by
 have h4 := zQK (n := 4) hq
 have e1 : ∀ k, k < 4 → okV 4 (.obj k) := fun k h => h
 refine ⟨?_, ?_, trivial, trivial, trivial⟩
 ·exact ⟨e1 1 (by lia), trivial, trivial, trivial, trivial, trivial, trivial, trivial, trivial, trivial, trivial, h4, e1 2 (by lia), trivial, trivial, trivial, e1 3 (by lia), trivial, trivial, trivial⟩
 ·exact ⟨trivial, trivial, trivial, trivial⟩
theorem zSt {q : SV} {t b : Str} {i p : Int} {extra : List SO} (hq : zAe q) : SosT 4 (zAC q (.str t) i b p extra) ((zAC q (.str t) i b p extra).take 4) (zAC q (.str t) i b p []) :=
 (zJd (loc := []) (more := []) hq trivial).led
section
variable {w : World} {F : Fm} {A : Around} {ads : Wd} {st : St} {s : Shared} {b : Str} {x : LexE} {q : SV} {i p : Int} {led₂ : List SO} {v : Value} {Rr : Result → Shared → Prop}
noncomputable abbrev lex0 (q : SV) (i : Int) (b : Str) (p : Int) : St := { loc := [("self", .obj 0), ("quoted", .bool false), ("escapedstate", .str " ")], led := zAC q (.str "") i b p [] }
theorem zEf {ads more : Wd} {st st' : St} {h h' : Heap} (R : Rep w F ads st h) (R' : Rep w F (wa ads more) st' h') (e : st'.led.length = st.led.length) : ∃ z, more = ⟨[], z⟩ := by
 obtain ⟨m, news, lw, X⟩ := R
 obtain ⟨m', news', lw', X'⟩ := R'
 have h1 := X.led.length
 have h2 := X'.led.length
 rw [Wd.ads_append, List.length_append] at h2
 obtain ⟨a, z⟩ := more
 have : a = [] := List.eq_nil_of_length_eq_zero (by dsimp only at h2; lia)
 subst this
 exact ⟨z, rfl⟩
theorem zPI (ok : FmOk (cfT w.params b x) F) (hA : A.frames = some F.stk) (hh : A.handled = none) (hd : A.depth + 1 + 130 < recursionLimit) (hu : A.units + 3 + 8 * 130 < cLine) (R : Rep w F ads st s.heap) (dv : Den F.B ads (.obj 0) v)
  (hled : st.led = zAC q (.str "") i b p [] ++ led₂) (hq : zAe q) (hc : LexC (lex0 q i b p) b x) (hxq : zAe x.q) (ht : x.quoted = true ∨ Fast.sEq x.tok "" = false)
  (T : ∀ z s' u, Rep w F (wa ads (⟨[], z⟩ : Wd)) ⟨st.loc, zAC x.q (.str "") x.line b x.p [] ++ led₂⟩ s'.heap → Nx F s s' → Den F.B (wa ads (⟨[], z⟩ : Wd)) (.str x.tok) u → Rr (.ok (.ret u)) s') :
  codeAny (model prog w) A (.call (.ref 729) ⟨[v], []⟩) Rr s := by
 refine zBS (e := f729) (n := 130) (k := fun r st' => r = .v (.str x.tok) ∧ st' = ⟨st.loc, zAC x.q (.str "") x.line b x.p [] ++ led₂⟩) (Q := fun c s' => ∃ u, c = .v u ∧ Rr (.ok (.ret u)) s') (svs := [.obj 0]) (zBs (cokT w b x) 130) (zQS _) ok (fun _ => hA) hh hd hu R (.cons dv .nil) rfl hled (okLx hq) (fun y hy => by rw [List.mem_singleton.mp hy]; show 0 < 4; lia) List.nodup_nil ?_ ?_ ?_
 ·show ev (cfT w.params b x) 130 (zAB s729).names (.sts (zAE s729)) { loc := [("self", .obj 0)], led := zAC q (.str "") i b p [] } _
  rw [zUQ]
  have fin : ∃ x' y led', (SR.ret (.str x.tok) = .ret x' ∨ (SR.ret (.str x.tok) = .next ∧ x' = .none)) ∧ SvT 4 (zAC x.q (.str "") x.line b x.p []) x' y ∧ SosT 4 (zAC x.q (.str "") x.line b x.p []) ((zAC x.q (.str "") x.line b x.p []).take 4) led' ∧ (SR.v y = .v (.str x.tok) ∧ (⟨st.loc, led' ++ led₂⟩ : St) = ⟨st.loc, zAC x.q (.str "") x.line b x.p [] ++ led₂⟩) :=
   ⟨.str x.tok, .str x.tok, _, .inl rfl, .same trivial, zSt hxq, rfl, rfl⟩
  refine ⟨rfl, rfl, hc, ?_⟩
  cases hqq : x.quoted with
  | true => exact fin
  | false =>
   rcases ht with h | h
   ·rw [hqq] at h; cases h
   ·rw [h]; exact fin
 ·intro r st' more c s' hk R' nx d
  obtain ⟨rfl, rfl⟩ := hk
  cases c with
  | v u =>
   refine ⟨u, rfl, ?_⟩
   obtain ⟨z, rfl⟩ := zEf R R' (by rw [hled]; rfl)
   exact T z s' u R' nx d
  | _ => exact d.elim
 ·rintro u s' ⟨_, e, h⟩; cases e; exact h
theorem zMq (ok : FmOk (cfT w.params b x) F) (hA : A.frames = some F.stk) (hh : A.handled = none) (hd : A.depth + 1 + 130 < recursionLimit) (hu : A.units + 3 + 8 * 130 < cLine) (R : Rep w F ads st s.heap) (dv : Den F.B ads (.obj 0) v)
  (hled : st.led = zAC q (.str "") i b p [] ++ led₂) (hq : zAe q) (hc : LexC (lex0 q i b p) b x) (hxq : zAe x.q) (ht : x.quoted = false ∧ Fast.sEq x.tok "" = true)
  (T : ∀ z s' e, Rep w F (wa ads (⟨[], z⟩ : Wd)) ⟨st.loc, zAC x.q (.str "") x.line b x.p [] ++ led₂⟩ s'.heap → Nx F s s' → (∃ o, s'.heap.get? e = some o ∧ o.cls = .type "StopIteration") → Rr (.error (.ref e)) s') :
  codeAny (model prog w) A (.call (.ref 729) ⟨[v], []⟩) Rr s := by
 refine zFb (e := f729) (svs := [.obj 0]) (zQS _) ok (fun _ => hA) hh (by omega) R (.cons dv .nil) rfl hled (okLx hq) (fun y hy => by rw [List.mem_singleton.mp hy]; show 0 < 4; omega) List.nodup_nil fun F' W Wc h₁ t ok' eA eS eB eT eZ eL R0' back bv => ?_
 have R' := zLl eZ eL R0'
 have eN : F'.sc.names = (zAB s729).names := by rw [eS]; rfl
 have dd : F'.A.depth + 130 < recursionLimit := by rw [eA]; show A.depth + 1 + 130 < _; omega
 have uu : F'.A.units + 8 * 130 < cLine := by rw [eA]; show A.units + 3 + 8 * 130 < _; omega
 have sn := zBs (cokT w b x) 130
 have cv : ∀ {a b : Shared}, NxB F'.quiet a b → NxB F.quiet a b := fun {a b} q => by rw [← eT.2.1]; exact q
 show wpAny (model prog w) F'.A (execs (zAE s729) F'.env) _ _ _
 rw [zRp]
 let st1 : St := ⟨[("self", .obj 0), ("token", .none)], zAC x.q (.str "") x.line b x.p []⟩
 refine wpAny_execs_cons (wpAny_mono (sn F' (fun _ _ => False) (.st (stAt 0 (zAE s729))) _ (fun r st' => r = .next ∧ st' = st1) W _ (fun c s' => c = .fl .next ∧ ∃ z, Rep w F' (wa W (⟨[], z⟩ : Wd)) st1 s'.heap ∧ Nx F s s') ok' dd uu ?_ R' ?_) (fun f s₁ hf => ?_) fun _ _ h => h.elim)
 ·rw [eN]
  show ev (cfT w.params b x) 130 (zAB s729).names (.st (stAt 0 (zAE s729))) { loc := [("self", .obj 0)], led := zAC q (.str "") i b p [] } _
  rw [zTH]
  refine ⟨rfl, rfl, hc, ?_⟩
  rw [ht.1, ht.2]
  exact ⟨rfl, rfl⟩
 ·rintro r st₁ m1 c s₁ ⟨rfl, rfl⟩ R₁ x₁ d₁
  obtain ⟨z1, rfl⟩ := zEf R' R₁ rfl
  cases c with
  | fl f =>
   cases f <;> try exact d₁.elim
   exact ⟨rfl, z1, R₁, (Nx.mk' s h₁ t).trans (cv x₁)⟩
  | _ => exact d₁.elim
 obtain ⟨e, z1, R₁, x₁⟩ := hf
 cases e
 dsimp only
 refine wpAny_execs_cons (wpAny_If (wpAny_mono (sn F' (fun _ _ => False) (.tr (zCt nxIf)) _ (fun r st' => r = .b true ∧ st' = st1) _ _ (fun c s' => c = .b true ∧ ∃ z, Rep w F' (wa W (⟨[], z⟩ : Wd)) st1 s'.heap ∧ Nx F s s') ok' dd uu ?_ R₁ ?_) (fun f s₂ hf => ?_) fun _ _ h => h.elim))
 ·rw [eN, zTG]; exact ⟨rfl, rfl⟩
 ·rintro r st₂ m2 c s₂ ⟨rfl, rfl⟩ R₂ x₂ d₂
  obtain ⟨z2, rfl⟩ := zEf R₁ R₂ rfl
  cases c with
  | b c =>
   cases d₂
   refine ⟨rfl, z1 ++ z2, ?_, x₁.trans (cv x₂)⟩
   have e1 : (wa (wa W (⟨[], z1⟩ : Wd)) (⟨[], z2⟩ : Wd)) = (wa W (⟨[], z1 ++ z2⟩ : Wd)) := by rw [Wd.append_assoc]; rfl
   rw [← e1]; exact R₂
  | _ => exact d₂.elim
 obtain ⟨e, z2, R₂, x₂⟩ := hf
 cases e
 rw [if_pos rfl]
 obtain ⟨mg, mb, G1, G2, G3⟩ := ok'.G.ns
 have R₂' := R₂
 obtain ⟨m, news, lw, X⟩ := R₂'
 refine wpAny_execs_cons (owsi_raiseC ok'.hand (ldB ok' X.fr G1 (mg_none_of ok'.X G1 (by kernel_rfl)) G2 ((G3 "StopIteration" (by decide +kernel)).trans (by kernel_rfl)) ⟨rfl, rfl⟩ (by show F'.sc.names.lookup _ = _; rw [eN, ← zAW]; kernel_rfl) (by decide)) fun h' e hm => ?_)
 refine zMV (hkn := rfl) (h := s₂.heap) (cls := .type "StopIteration") (args := []) eT.1 ok' R₂ ⟨hm.keeps, hm.new, hm.there⟩ fun h'' R₃ ho => ?_
 exact T z2 _ e (back _ _ _ _ R₃) (x₂.trans (Nx.of_gens rfl rfl rfl)) ho
end
inductive LexAll (b : Str) : SV → Int → Int → List Str → Prop
 | stop {q : SV} {i p : Int} {x : LexE} : zAe q → zAe x.q → LexC (lex0 q i b p) b x → x.quoted = false → Fast.sEq x.tok "" = true → LexAll b q i p []
 | tok {q : SV} {i p : Int} {x : LexE} {toks : List Str} : zAe q → zAe x.q → LexC (lex0 q i b p) b x → (x.quoted = true ∨ Fast.sEq x.tok "" = false) → LexAll b x.q x.line x.p toks → LexAll b q i p (x.tok :: toks)
noncomputable def cfK (P : Params) : Cf where
 K := KK P
 globs := []
 fns := []
 cls := []
noncomputable def s722 : Stmt := stAt 9 (zAK (stAt 22 B01))
noncomputable def f722 : FnE := ⟨722, 1, ["self"], [], zAE s722, zAB s722, "shlex.__iter__", .ref 721, []⟩
theorem zTk (P : Params) : FnOk (KK P) f722 := FnOk.of (by kernel_rfl) (by kernel_rfl) ⟨_, _, _, _, (by kernel_rfl : (KK P).lookup 722 = some (o722 P)), rfl, rfl, fun _ _ => rfl, rfl, rfl, fun s vs X h => by
 obtain ⟨a, rfl⟩ := len1 h
 exact BindsTo.of_eq (by kernel_rfl)⟩
theorem zUb (P : Params) (st : List SO) (k : Kt) : ev (cfK P) 10 (zAB s722).names (.sts (zAE s722)) { loc := [("self", .obj 0)], led := st } k = k (.ret (.obj 0)) { loc := [("self", .obj 0)], led := st } := by kernel_rfl
theorem cokK (w : World) : CfOk w (cfK w.params) := ⟨zAD, zAD, (fun x v h => nomatch h), zAD, zAD, zAD⟩
section
variable {w : World} {F : Fm} {A : Around} {b : Str} {E : Value → Shared → Prop}
theorem Wd.two (W : Wd) (z1 z2 : List (Addr × Obj)) : (wa (wa W (⟨[], z1⟩ : Wd)) (⟨[], z2⟩ : Wd)) = (wa W (⟨[], z1 ++ z2⟩ : Wd)) := by rw [Wd.append_assoc]; rfl
theorem zDo {ads : Wd} {st : St} {s : Shared} {q : SV} {i p : Int} {led₂ : List SO} (R : Rep w F ads st s.heap) (hled : st.led = zAC q (.str "") i b p [] ++ led₂) {a : Addr} (da : Den F.B ads (.obj 0) (.ref a)) :
  ∃ m ox od, Fr F.h₀ F.L s.heap m ∧ PySem.W.InstAt s.heap a ox 732 od := by
 obtain ⟨m, news, lw, X⟩ := R
 obtain ⟨pre, post, a', dd, es, n, h1, e, he, I, _⟩ := zDO X (i := 0) (by rw [hled]; rfl) da
 cases e
 exact ⟨m, _, _, X.fr, I⟩
theorem zJx {Q : Option Value → Shared → Prop} {ads : Wd} {st : St} {s : Shared} {q : SV} {i p : Int} {x : LexE} {led₂ : List SO} {a : Addr} (ok : FmOk (cfK w.params) F) (hA : A.frames = some F.stk) (hh : A.handled = none) (hd : A.depth + 1 + 130 < recursionLimit) (hu : A.units + 3 + 8 * 130 < cLine)
  (R : Rep w F ads st s.heap) (da : Den F.B ads (.obj 0) (.ref a)) (hled : st.led = zAC q (.str "") i b p [] ++ led₂) (hq : zAe q) (hc : LexC (lex0 q i b p) b x) (hxq : zAe x.q)
  (tok : (x.quoted = true ∨ Fast.sEq x.tok "" = false) → ∀ z s' u, Rep w F (wa ads (⟨[], z⟩ : Wd)) ⟨st.loc, zAC x.q (.str "") x.line b x.p [] ++ led₂⟩ s'.heap → Nx F s s' → Den F.B (wa ads (⟨[], z⟩ : Wd)) (.str x.tok) u → Q (some u) s')
  (stop : (x.quoted = false ∧ Fast.sEq x.tok "" = true) → ∀ z s', Rep w F (wa ads (⟨[], z⟩ : Wd)) ⟨st.loc, zAC x.q (.str "") x.line b x.p [] ++ led₂⟩ s'.heap → Nx F s s' → Q none s') :
  wpAny (model prog w) A (pyNext (.ref a)) Q E s := by
 obtain ⟨m, ox, od, fr, I⟩ := zDo R hled da
 have ok' : FmOk (cfT w.params b x) F := zAX (C := cfK w.params) (C' := cfT w.params b x) rfl ok (by first | exact fun _ => rfl | exact fun _ => by assumption | exact fun h => h)
 refine owit_next (f := 729) fr ok.X I (by kernel_rfl) (by kernel_rfl) (wpAny_call ?_)
 by_cases ht : x.quoted = true ∨ Fast.sEq x.tok "" = false
 ·exact zPI ok' hA hh hd hu R da hled hq hc hxq ht fun z s' u R' nx d => tok ht z s' u R' nx d
 ·have ht' : x.quoted = false ∧ Fast.sEq x.tok "" = true := by
   constructor
   ·cases hb : x.quoted with
    | false => rfl
    | true => exact absurd (.inl hb) ht
   ·cases hb : Fast.sEq x.tok "" with
    | true => rfl
    | false => exact absurd (.inr hb) ht
  refine zMq ok' hA hh hd hu R da hled hq hc hxq ht' fun z s' e R' nx ho => ?_
  show OwitStop _ _ _ _ _ _
  unfold OwitStop
  refine wpAny_isInstance (show s'.TypeIs (.ref e) "StopIteration" from ho) owsi_facts.sub ?_
  rw [if_pos rfl]
  exact stop ht' z s' R' nx
theorem zPk {R : Result → Shared → Prop} {aS aL : Addr} {res : Value} (ok : FmOk (cfK w.params) F) (hA : A.frames = some F.stk) (hh : A.handled = none) (hd : A.depth + 1 + 130 < recursionLimit) (hu : A.units + 1 + 3 + 8 * 130 < cLine) :
  ∀ {q : SV} {i p : Int} {toks : List Str}, LexAll b q i p toks → ∀ {ads : Wd} {st : St} {s : Shared} {ys : List SV}, st.led = zAC q (.str "") i b p [] ++ [.list ys] → ys.length + toks.length ≤ sizeLine → Rep w F ads st s.heap → Den F.B ads (.obj 0) (.ref aL) → Den F.B ads (.obj 4) (.ref aS) →
   (∀ z s' q' i' p', Rep w F (wa ads (⟨[], z⟩ : Wd)) ⟨st.loc, zAC q' (.str "") i' b p' [] ++ [.list (ys ++ toks.map .str)]⟩ s'.heap → Nx F s s' → zAe q' → R (.ok (.ret res)) s') →
   codeAny (model prog w) A (.builtin "list.extend.loop" ⟨[.ref aS, .ref aL, res], []⟩) R s := by
 intro q i p toks hL
 induction hL with
 | stop hq hxq hc h1 h2 =>
  rename_i q i p x
  intro ads st s ys hled hlen Rp dL dS fin
  refine codeAny_builtin PySem.F.entry_extend_loop ?_
  rw [Around.under_plainId PySem.F.plain_extend_loop _]
  show wpAny _ A.in1 (pyNext (.ref aL) >>= _) _ _ s
  refine wpAny_bind (zJx (A := A.in1) ok hA hh (by show A.depth + 1 + 130 < _; lia) (by show A.units + 1 + 3 + 8 * 130 < _; lia) Rp dL hled hq hc hxq (fun h => ?_) fun _ z s' R' nx => ?_)
  ·rcases h with h | h
   ·rw [h1] at h; cases h
   ·rw [h2] at h; cases h
  ·exact wpAny_pure (fin z s' _ _ _ (by rw [List.map_nil, List.append_nil]; exact R') nx hxq)
 | tok hq hxq hc h1 hr ih =>
  rename_i q i p x toks
  intro ads st s ys hled hlen Rp dL dS fin
  refine codeAny_builtin PySem.F.entry_extend_loop ?_
  rw [Around.under_plainId PySem.F.plain_extend_loop _]
  show wpAny _ A.in1 (pyNext (.ref aL) >>= _) _ _ s
  refine wpAny_bind (zJx (A := A.in1) ok hA hh (by show A.depth + 1 + 130 < _; lia) (by show A.units + 1 + 3 + 8 * 130 < _; lia) Rp dL hled hq hc hxq (fun _ z s' u R' nx du => ?_) fun h => ?_)
  ·obtain ⟨a, vs, n, e, ho, D, upd⟩ := zCH R' (i := 4) (xs := ys) rfl dS.mono
   cases e
   show wpAny _ A.in1 (updateSeq aS (·.push u) >>= _) _ _ _
   have lv := D.length
   have hlen' : ys.length + (toks.length + 1) ≤ sizeLine := hlen
   refine wpAny_bind (wpAny_updateSeq ho rfl (wpAny_pure ⟨plainId_quiet PySem.F.plain_extend_loop _, ?_⟩) (by simp; lia) (by simp; lia))
   have ho' := Heap.get?_update_self (Obj.mapSeq (·.push u)) ho rfl
   have R'' := upd (s'.heap.update aS (Obj.mapSeq (·.push u))) (ys ++ [.str x.tok]) (vs ++ [u]) n.succ (by rw [ho']; simp [Obj.mapSeq]) (fun b hb o q => (Heap.get?_update_other _ _ (Ne.symm hb)).trans q) (D.append (.cons du .nil))
   refine ih (ads := (wa ads (⟨[], z⟩ : Wd))) (st := ⟨st.loc, zAC x.q (.str "") x.line b x.p [] ++ [.list (ys ++ [.str x.tok])]⟩) rfl (by simp; lia) R'' dL.mono dS.mono fun z2 s₂ q' i' p' R₂ nx₂ hq' => ?_
   rw [Wd.two] at R₂
   refine fin (z ++ z2) s₂ q' i' p' ?_ (nx.trans ((Nx.mk' s' _ s'.toks).trans nx₂)) hq'
   simpa using R₂
  ·rcases h1 with h1 | h1
   ·rw [h.1] at h1; cases h1
   ·rw [h.2] at h1; cases h1
theorem zSa {B : Heap} {W : Wd} {i : Nat} {v : Value} (d : Den B W (.obj i) v) : ∃ a, v = .ref a := let ⟨p, _, e⟩ := d; ⟨p.1, e⟩
theorem zNK {Q : Value → Shared → Prop} {ads : Wd} {st : St} {s : Shared} {q : SV} {i p : Int} {led₂ : List SO} {a : Addr} (ok : FmOk (cfK w.params) F) (hA : A.frames = some F.stk) (hh : A.handled = none) (hd : A.depth + 1 + 10 < recursionLimit) (hu : A.units + 3 + 8 * 10 < cLine)
  (R : Rep w F ads st s.heap) (da : Den F.B ads (.obj 0) (.ref a)) (hled : st.led = zAC q (.str "") i b p [] ++ led₂) (hq : zAe q)
  (fin : ∀ z s', Rep w F (wa ads (⟨[], z⟩ : Wd)) st s'.heap → Nx F s s' → Q (.ref a) s') :
  wpAny (model prog w) A (pyIter (.ref a)) Q E s := by
 obtain ⟨m, ox, od, fr, I⟩ := zDo R hled da
 refine owit_iter (f := 722) fr ok.X I (by kernel_rfl) (by kernel_rfl) (wpAny_call ?_)
 refine zBS (e := f722) (n := 10) (k := fun r st' => r = .v (.obj 0) ∧ st' = st) (Q := fun c s' => ∃ u, c = .v u ∧ OwitIt (model prog w) A Q E u s') (svs := [.obj 0]) (zBs (cokK w) 10) (zTk _) ok (fun _ => hA) hh hd hu R (.cons da .nil) rfl hled (okLx hq) (fun y hy => by rw [List.mem_singleton.mp hy]; show 0 < 4; lia) List.nodup_nil ?_ ?_ ?_
 ·show ev (cfK w.params) 10 (zAB s722).names (.sts (zAE s722)) { loc := [("self", .obj 0)], led := zAC q (.str "") i b p [] } _
  rw [zUb]
  exact ⟨.obj 0, .obj 0, _, .inl rfl, .keep (by show 0 < 4; lia), zSt hq, rfl, by rw [← hled]⟩
 ·intro r st' more c s' hk R' nx d
  obtain ⟨rfl, rfl⟩ := hk
  cases c with
  | v u =>
   obtain ⟨z, rfl⟩ := zEf R R' rfl
   have : u = .ref a := by
    obtain ⟨p1, h1, e1⟩ := da
    obtain ⟨p2, h2, e2⟩ := d
    rw [Wd.ads_append, List.append_nil, h1] at h2
    cases h2
    exact e2.trans e1.symm
   subst this
   obtain ⟨m, ox, od, fr, I⟩ := zDo R' hled da.mono
   exact ⟨_, rfl, owit_it (g := .ref 729) fr ok.X I (by kernel_rfl) (fin z s' R' nx)⟩
  | _ => exact d.elim
 ·rintro u s' ⟨_, e, h⟩; cases e; exact h
theorem zPJ {Q : Value → Shared → Prop} {ads : Wd} {st : St} {s : Shared} {q : SV} {i p : Int} {toks : List Str} {v : Value} (ok : FmOk (cfK w.params) F) (hd : F.A.depth + 1 + 130 < recursionLimit) (hu : F.A.units + 3 + 3 + 8 * 130 < cLine)
  (hL : LexAll b q i p toks) (hlen : toks.length ≤ sizeLine) (hq : zAe q) (R : Rep w F ads st s.heap) (da : Den F.B ads (.obj 0) v) (hled : st.led = zAC q (.str "") i b p [])
  (fin : ∀ more s' u q' i' p', Rep w F (wa ads more) ⟨st.loc, zAC q' (.str "") i' b p' [.list (toks.map .str)]⟩ s'.heap → Nx F s s' → Den F.B (wa ads more) (.obj 4) u → Q u s') :
  wpAny (model prog w) F.A (call (.type "list") [v]) Q E s := by
 obtain ⟨a, rfl⟩ := zSa da
 refine callType_codes (Q₁ := fun obj s₁ => obj = .ref s.heap.objs.size ∧ s₁ = { s with heap := s.heap.push { cls := .type "list", data := .seq #[] } }) PySem.F.called_list (PySem.F.typeCall_list_1 _) PySem.F.entry_list_init
  (code_list_new _ ⟨rfl, rfl⟩) fun obj s₁ h₁ => ?_
 obtain ⟨rfl, rfl⟩ := h₁
 have hS : (s.heap.push { cls := .type "list", data := .seq #[] }).get? s.heap.objs.size = some { cls := .type "list", data := .seq #[] } := Heap.get?_push_size _ rfl
 have R1 : Rep w F (wa ads (.one s.heap.objs.size 0)) ⟨st.loc, zAC q (.str "") i b p [] ++ [.list []]⟩ (s.heap.push { cls := .type "list", data := .seq #[] }) := by
  have := zBK (o := { cls := .type "list", data := .seq #[] }) (so := .list []) rfl R (One.list (vs := []) (n := 0) .nil)
  rw [hled] at this; exact this
 have d4 : Den F.B (wa ads (.one s.heap.objs.size 0)) (.obj 4) (.ref s.heap.objs.size) := by
  refine ⟨(s.heap.objs.size, 0), ?_, rfl⟩
  have := zCu ads s.heap.objs.size 0
  rw [← zBa R, hled] at this; exact this
 have hne : s.heap.objs.size ≠ a := by
  intro e
  obtain ⟨m, ox, od, fr, I⟩ := zDo (led₂ := []) R (by rw [hled, List.append_nil]) da
  have := Heap.lt_size I.at_
  rw [e] at this
  exact Nat.lt_irrefl _ this
 refine ⟨⟨_, hS, rfl⟩, PySem.F.args_list_init_2 _ _, ?_⟩
 show wpAny _ F.A.in1.in1 (do let old ← Builtin.List.listItems (.ref s.heap.objs.size); Builtin.List.listUpdate (.ref s.heap.objs.size) (fun _ => #[]); letGo old.toList.reverse; Builtin.List.listExtendWith (.ref s.heap.objs.size) (.ref a) .none) _ _ _
 refine wpAny_bind ?_
 unfold Builtin.List.listItems
 refine wpAny_bind (wpAny_seqItems hS rfl (wpAny_pure ?_))
 refine wpAny_bind (wpAny_updateSeq hS rfl ?_)
 refine wpAny_bind (wpAny_letGo ?_)
 -- the list is empty still
 obtain ⟨a', vs, n, e, ho, D, upd⟩ := zCH R1 (i := 4) (xs := []) rfl d4
 cases e
 cases D
 have hS₂ := Heap.get?_update_self (Obj.mapSeq (fun _ => (#[] : Array Value))) ho rfl
 have R2 := upd (((s.heap.push { cls := .type "list", data := .seq #[] }).update s.heap.objs.size (Obj.mapSeq (fun _ => (#[] : Array Value))))) [] [] _ hS₂ (fun b hb o q => (Heap.get?_update_other _ _ (Ne.symm hb)).trans q) .nil
 obtain ⟨m, ox, od, fr, I⟩ := zDo (s := { s with heap := ((s.heap.push { cls := .type "list", data := .seq #[] }).update s.heap.objs.size (Obj.mapSeq (fun _ => (#[] : Array Value)))) }) R2 rfl da.mono
 unfold Builtin.List.listExtendWith
 refine wpAny_bind (I.type.here ?_)
 have h1 : Builtin.List.listSameRef (.ref s.heap.objs.size) (.ref a) = false := by simp [Builtin.List.listSameRef, hne]
 have h2 : (Value.ref 732 == Value.type "list") = false := by decide
 have h3 : (Value.ref 732 == Value.type "tuple") = false := by decide
 simp only [h1, h2, h3, Bool.or_false, Bool.false_eq_true, if_false]
 refine wpAny_bind (zNK (A := F.A.in1.in1) ok (ok.stack rfl) ok.hand (by show F.A.depth + 1 + 10 < _; lia) (by show F.A.units + 1 + 1 + 3 + 8 * 10 < _; lia) R2 da.mono rfl hq fun z3 s₃ R3 nx3 => ?_)
 obtain ⟨m3, ox3, od3, fr3, I3⟩ := zDo R3 rfl da.mono.mono
 refine wpAny_bind (wpAny_holding ?_)
 unfold Builtin.List.listLengthHint
 refine wpAny_bind (wpAny_bind (I3.type.here ((looks_findIn (K := KK w.params) (ok.X.keeps fr3.keep) (name := "__len__") (r := none) (by kernel_rfl)).here ?_)))
 show wpAny _ F.A.in1.in1 (specialOf (Value.ref a) (Str.ofString "__length_hint__") >>= _) _ _ _
 refine wpAny_bind (wpAny_bind (I3.type.here ((looks_findIn (K := KK w.params) (ok.X.keeps fr3.keep) (name := "__length_hint__") (r := none) (by kernel_rfl)).here ?_)))
 refine wpAny_pure ?_
 show wpAny _ F.A.in1.in1 (rule "list.extend.makes-room" >>= fun _ => Builtin.List.listTouch (.ref s.heap.objs.size) >>= fun _ =>
  again (.builtin "list.extend.loop" ⟨[.ref s.heap.objs.size, .ref a, .none], []⟩)) _ _ _
 refine wpAny_bind (wpAny_rule ?_)
 obtain ⟨a4, vs4, n4, e4, ho4, D4, upd4⟩ := zCH R3 (i := 4) (xs := []) rfl d4.mono
 cases e4
 cases D4
 refine wpAny_bind ?_
 show wpAny _ F.A.in1.in1 (updateSeq s.heap.objs.size (·.push .none) >>= fun _ => updateSeq s.heap.objs.size (·.pop)) _ _ _
 refine wpAny_bind (wpAny_updateSeq ho4 rfl ?_)
 have hS₅ := Heap.get?_update_self (Obj.mapSeq (·.push Value.none)) ho4 rfl
 refine wpAny_updateSeq hS₅ rfl ?_
 have hS₆ := Heap.get?_update_self (Obj.mapSeq (·.pop)) hS₅ rfl
 have R4 := upd4 _ [] [] _ hS₆ (fun b hb o q => (Heap.get?_update_other _ _ (Ne.symm hb)).trans ((Heap.get?_update_other _ _ (Ne.symm hb)).trans q)) .nil
 refine wpAny_pure ⟨plainId_quiet PySem.F.plain_extend_loop _, ?_⟩
 refine zPk (A := F.A.in1) ok (ok.stack rfl) ok.hand (by show F.A.depth + 1 + 130 < _; lia) (by show F.A.units + 1 + 1 + 3 + 8 * 130 < _; lia) hL (s := { s₃ with heap := _ }) rfl (by simpa using hlen) R4 da.mono.mono d4.mono fun z5 s₅ q' i' p' R5 nx5 hq' => ⟨rfl, ?_⟩
 rw [Wd.append_assoc, Wd.append_assoc] at R5
 refine fin _ s₅ _ q' i' p' R5 (((Nx.mk' s _ s.toks).trans nx3).trans ((Nx.mk' s₃ _ s₃.toks).trans nx5)) ?_
 have := (d4.mono (more := ⟨[], z3⟩)).mono (more := ⟨[], z5⟩)
 rw [Wd.append_assoc, Wd.append_assoc] at this
 exact this
end
section
variable {w : World} {h : Heap}
theorem zKo (X : (KK w.params).In h) : Looks (model prog w) h (Bind.madeBy (.ref 597)) none := Looks.of_peek X (by kernel_rfl)
theorem zRU (X : (KK w.params).In h) : Looks (model prog w) h (mroOf (.ref 597)) [.ref 597, .ref 120, .ref 93, .type "object"] := Looks.of_peek X (by kernel_rfl)
theorem zOk (X : (KK w.params).In h) : Looks (model prog w) h (isSubtype (.ref 597) (.ref 597)) true := Looks.of_peek X (by kernel_rfl)
theorem zOo (X : (KK w.params).In h) : Looks (model prog w) h (specialOf (.ref 597) "__call__") (some (.builtin "type.__call__")) := Looks.of_peek X (by kernel_rfl)
theorem zRT (X : (KK w.params).In h) : Looks (model prog w) h (isInstance (.ref 597) (.type "type")) true := Looks.of_peek X (by kernel_rfl)
theorem zOm (X : (KK w.params).In h) : Looks (model prog w) h (typeLookup (.ref 597) "__init__") (some (.ref 367)) := Looks.of_peek X (by kernel_rfl)
theorem zKp (X : (KK w.params).In h) : Looks (model prog w) h (isType (.ref 597)) true := Looks.of_peek X (by kernel_rfl)
theorem zIx (X : (KK w.params).In h) : Looks (model prog w) h (checkBuiltinCall "object.__new__" ⟨[.ref 597], []⟩) () := Looks.of_peek X (by kernel_rfl)
theorem zOn (X : (KK w.params).In h) : Looks (model prog w) h (Bind.madeHere "object.__new__" (.ref 597)) () := Looks.of_peek X (by kernel_rfl)
theorem zJl (X : (KK w.params).In h) : ∃ oc od cd sl, h.get? 597 = some ⟨oc, od, .cls cd, sl⟩ ∧ cd.abstract = false ∧ cd.hasDel = false := ⟨_, _, _, _, X _ _ (by kernel_rfl : (KK w.params).lookup 597 = some (o597 w.params)), rfl, rfl⟩
end
section
variable {w : World} {A : Around} {R : Result → Shared → Prop} {h : Heap} {g : Array GenState} {d : Drawn} {t : Nat} {os : OsState}
theorem zMO (X : (KK w.params).In h) (hq : R (.ok (.ret (.ref (h.objs.size + 1)))) ⟨(h.push emptyDict).push (instObj 597 h.objs.size), g, d, t, os⟩) :
  codeAny (model prog w) A (.call (.builtin "object.__new__") ⟨[.ref 597], []⟩) R ⟨h, g, d, t, os⟩ := by
 obtain ⟨oc, od, cd, sl, hC, e1, e2⟩ := zJl X
 have F := PySem.F.objNew
 refine codeAny_call_builtin_code (Code.quiet_builtin _ F.quiet) ((zIx X).at ?_)
 refine codeAny_builtin F.entry ?_
 unfold Builtin.«object.__new__»
 have it := zKp X
 have here := zOn X
 have hC' := Heap.get?_push_of_some (instObj 597 (h.push emptyDict).objs.size.pred) (Heap.get?_push_of_some emptyDict hC)
 have fin : ∀ A', wpAny (model prog w) A' (do
   let d ← if typeHasDict (.ref 597) then some <$> alloc { cls := .type "dict", data := .dict #[] } else pure none
   ret (← newObj (.ref 597) .plain d)) (fun fin s' => match fin with | .done f => R (.ok f) s' | .again c' => c'.quiet = true ∧ codeAny (model prog w) A c' R s') (fun e s' => R (.error e) s') ⟨h, g, d, t, os⟩ := by
  intro A'
  show wpAny _ _ ((alloc emptyDict >>= fun x => pure (some x)) >>= _) _ _ _
  refine wpAny_bind (wpAny_bind (wpAny_alloc (wpAny_pure (wpAny_bind ?_))))
  show wpAny _ _ (newObjAsIs _ _ _) _ _ _
  unfold newObjAsIs classHasDel
  refine wpAny_bind (wpAny_alloc (wpAny_bind (wpAny_bind (wpAny_load (Heap.get?_push_of_some _ (Heap.get?_push_of_some _ hC)) (wpAny_pure ?_)))))
  rw [e2]
  refine wpAny_pure (wpAny_pure ?_)
  show R _ _
  rw [Heap.size_push]
  exact hq
 repeat (first | simp only [e1, Bool.false_eq_true, if_false] | exact fin _ | lk)
end
theorem zTJ : ∃ p1 p2 p3 p4 p5 p6 p7 p8 p9 p10 p11 p12 p13 b, zAE s90 = [.If (.BoolOp .And [.Compare (.Name "cls" p1) [.IsNot] [.Name "BytesIO" p2] p3, .Compare (.Name "cls" p4) [.IsNot] [.Name "StringIO" p5] p6] p7) b [] p8,
  .Return (some (.Call (.Attribute (.Name "object" p9) "__new__" p10) [.Name "cls" p11] [] p12)) p13] ∧ (p10.endLine == p12.line) = true ∧ behindInMarks .IsNot (.Name "BytesIO" p2) = false ∧ behindInMarks .IsNot (.Name "StringIO" p5) = false :=
 let a := stAt 0 (zAE s90); let c := stAt 1 (zAE s90); let e := sEx a; let f := sEx c
 ⟨kp e [0, 0], kp e [0, 1], kp e [0], kp e [1, 0], kp e [1, 1], kp e [1], kp e [], a.pos, kp f [0, 0], kp f [0], kp f [1], kp f [], c.pos, sBo a, by kernel_rfl, by kernel_rfl, by kernel_rfl, by kernel_rfl⟩
noncomputable def gN : List (Str × Value) := [("BytesIO", .ref 350), ("StringIO", .ref 597), ("object", .type "object")]
theorem gokN (P : Params) : ∀ p ∈ gN, zDh (KK P) p :=
 zAA ⟨by kernel_rfl, .inl (by kernel_rfl)⟩ <| zAA ⟨by kernel_rfl, .inl (by kernel_rfl)⟩ <| zAA ⟨by kernel_rfl, .inr ⟨by kernel_rfl, by kernel_rfl, by kernel_rfl⟩⟩ <| zAD
noncomputable def cfN (P : Params) : Cf where
 K := KK P
 globs := gN
 fns := []
 cls := []
theorem cokN (w : World) : CfOk w (cfN w.params) := ⟨zAD, zAD, zAn (gokN _), zAD, zAD, zAD⟩
section
variable {w : World} {C : Cf} {F : Fm} {ads : Wd} {s : Shared} {st : St} {E : Value → Shared → Prop}
theorem zMp {A : Around} {x : Str} {p : Pos} {v : Value} {Q : Value → Shared → Prop} (ok : FmOk C F) (hk : zAd x F.sc.names = some .local) (hv : lk x st.loc = some (.val v)) (hdb : Fast.sEq x "__debug__" = false)
  (R : Rep w F ads st s.heap) (q : Q v s) : wpAny (model prog w) A (eval (.Name x p) F.env) Q E s := by
 rw [zAW] at hk
 obtain ⟨m, news, lw, u, X, a, b⟩ := zDN R hv
 obtain ⟨rfl, _⟩ := b
 exact ldE ok X.fr hk a q (by rw [zBm]; exact hdb)
theorem zCX {A : Around} {x : Str} {p : Pos} {v : Value} {Q : Value → Shared → Prop} (cok : CfOk w C) (ok : FmOk C F) (hk : zAd x F.sc.names = some .globalImplicit) (hv : lk x C.globs = some v) (hdb : Fast.sEq x "__debug__" = false)
  (R : Rep w F ads st s.heap) (q : Q v s) : wpAny (model prog w) A (eval (.Name x p) F.env) Q E s := by
 rw [zAW] at hk
 have hdb' : (x == ("__debug__" : Str)) = false := by rw [zBm]; exact hdb
 obtain ⟨m, news, lw, X⟩ := R
 obtain ⟨d, g⟩ := cok.globs x v hv
 obtain ⟨mg, mb, G1, G2, G3⟩ := ok.G.ns
 rcases g with g | ⟨g, g', g''⟩
 ·exact ldG ok X.fr G1 (mg_of ok.X G1 g) q hk hdb'
 ·exact ldB ok X.fr G1 (mg_none_of ok.X G1 g) G2 ((G3 x g'').trans g') q hk hdb'
theorem nw0 : typeOf (.type "object") = pure (.type "type") := by kernel_rfl
theorem nw1 : Manifest.isStub "object" = false := by decide +kernel
theorem nw2 (P : Params) : PySem.W.findCls (KK P) (.type "object") (.type "type") "__new__" = some (PySem.W.CFound.val (.builtin "object.__new__")) := by kernel_rfl
theorem nw3 : handedIn (.builtin "object.__new__") = true := by rfl
theorem zLG {Q : Value × List Value → Shared → Prop} {pl : Sem Bool} (ok : FmOk (cfN w.params) F) (R : Rep w F ads st s.heap) (q : Q (.builtin "object.__new__", []) { s with toks := s.toks + 1 }) :
  wpAny (model prog w) F.A (getMethod (.type "object") "__new__" pl) Q E s := by
 obtain ⟨m, news, lw, X⟩ := R
 have XK : (KK w.params).In F.h₀ := ok.X
 have XF := X.fr
 have e2 := nw2 w.params
 clear X ok
 revert XK e2
 generalize KK w.params = K
 intro XK e2
 exact @method_type prog w F.A E s K F.L F.h₀ m "__new__" (.builtin "object.__new__") "object" pl Q XF XK nw0 nw1 e2 nw3 q
theorem zUG (v : Value) : bindArgs (fnOf "__new__" "IOBase.__new__" (zBJ s90) (zAE s90) (zAB s90) .none .none .none (.str "io" 371) none (.ref 89) .none) ⟨[.ref 597, v], []⟩ =
  (newTuple [v] >>= fun tp => alloc { cls := .type "dict", data := .dict #[] } >>= fun d => pure ([("cls", .ref 597), ("args", tp), ("kwargs", .ref d)] : List (Str × Value))) := by kernel_rfl
noncomputable def f90 : FnE := ⟨90, 1, ["cls"], [], zAE s90, zAB s90, "IOBase.__new__", .ref 89, []⟩
theorem zUj (P : Params) : FnOk0 (KK P) f90 := by
 obtain ⟨h0, h1, h2, h3, h4, h5, h6, h7, h8⟩ := zFU (e := f90) (by kernel_rfl)
 refine ⟨⟨_, _, _, _, (by kernel_rfl : (KK P).lookup 90 = some (o90 P)), rfl, rfl, fun _ _ => rfl, rfl, rfl⟩, zCP h0, (by kernel_rfl), fun n => (cellsFrom_names f90.scope.names n 0 [] [] rfl).trans (zHh h1), h5, h6, ?_⟩
 exact zDY h7
theorem zUS {A : Around} {v : Value} {Rr : Result → Shared → Prop} (ok : FmOk (cfN w.params) F) (hA : A.frames = some F.stk) (hh : A.handled = none) (hd : A.depth + 1 < recursionLimit)
  (R : Rep w F ads st s.heap) (fin : ∀ z h', Rep w F (wa ads (⟨[], z⟩ : Wd)) st h' → ∀ t, Rr (.ok (.ret (.ref (h'.objs.size + 1)))) { s with heap := (h'.push emptyDict).push (instObj 597 h'.objs.size), toks := t }) :
  codeAny (model prog w) A (.call (.ref 90) ⟨[.ref 597, v], []⟩) Rr s := by
 refine zIR (e := f90) (C := cfN w.params) (loc₀ := [("cls", .val (.ref 597))]) (led₁ := []) (led₂ := st.led) (zUj _) ok (fun _ => hA) hh (by lia) R rfl trivial ⟨trivial, trivial⟩ List.nodup_nil (fun oc od osl fd g1 XK M A E Q hQ => ?_) fun F' W Wc h₁ t ok' eA eS eB eT eZ eL R0' back bv => ?_
 ·have e : (KK w.params).lookup 90 = some (o90 w.params) := by kernel_rfl
  have e' := e.symm.trans g1
  cases e'
  show wpAny M A (bindArgs (fnOf "__new__" "IOBase.__new__" (zBJ s90) (zAE s90) (zAB s90) .none .none .none (.str "io" 371) none (.ref 89) .none) ⟨[.ref 597, v], []⟩) Q E s
  rw [zUG]
  refine wpAny_bind (wpAny_newTuple (wpAny_bind (wpAny_alloc (wpAny_pure ?_))) (by show 1 ≤ sizeLine; decide))
  refine hQ _ _ (fun b o q => Heap.get?_push_of_some _ (Heap.get?_push_of_some _ q)) (fun x hx => ?_) (by show (["cls", "args", "kwargs"] : List Str).Nodup; exact zFG (by kernel_rfl)) (fun x sv hx => ?_) fun x _ hc => absurd hc List.not_mem_nil
  ·have hk : ∀ x ∈ (["cls", "args", "kwargs"] : List Str), f90.scope.names.lookup x = some .local ∨ (f90.scope.names.lookup x = some .cell ∧ x ∈ f90.cells) := zDD (by kernel_rfl)
   refine hk x.1 ?_
   rcases List.mem_cons.mp hx with rfl | hx
   ·exact .head _
   rcases List.mem_cons.mp hx with rfl | hx
   ·exact .tail _ (.head _)
   rw [List.mem_singleton.mp hx]
   exact .tail _ (.tail _ (.head _))
  ·unfold lk at hx
   split at hx
   ·rename_i q
    cases hx
    rw [zAQ q]
    exact ⟨_, .head _, rfl, rfl⟩
   ·cases hx
 ·have R' := zLl eZ eL R0'
  have eN : F'.sc.names = (zAB s90).names := by rw [eS]; rfl
  show wpAny (model prog w) F'.A (execs (zAE s90) F'.env) _ _ _
  obtain ⟨p1, p2, p3, p4, p5, p6, p7, p8, p9, p10, p11, p12, p13, b, e, hp, hb1, hb2⟩ := zTJ
  rw [e]
  have XK : (KK w.params).In h₁ := zGx (s := { s with heap := h₁ }) ok' R'
  have cok := cokN w
  have nCls : zAd "cls" F'.sc.names = some .local := by rw [eN]; kernel_rfl
  have nB : zAd "BytesIO" F'.sc.names = some .globalImplicit := by rw [eN]; kernel_rfl
  have nS : zAd "StringIO" F'.sc.names = some .globalImplicit := by rw [eN]; kernel_rfl
  have nO : zAd "object" F'.sc.names = some .globalImplicit := by rw [eN]; kernel_rfl
  have R2 : Rep w F' W ⟨[("cls", .val (.ref 597))], []⟩ ({ s with heap := h₁, toks := t } : Shared).heap := R'
  refine wpAny_execs_cons (wpAny_If (isTrue_and (wpAny_isTrue_Compare1 (zMp ok' nCls rfl (by kernel_rfl) R2 (zCX cok ok' nB (by kernel_rfl) (by kernel_rfl) R2 (wpAny_isNot_ref_other (by decide) (XK _ _ (by kernel_rfl : (KK w.params).lookup 597 = some (o597 w.params))) (XK _ _ (by kernel_rfl : (KK w.params).lookup 350 = some (o350 w.params))) (by show (Value.type "type") ≠ .type "tuple"; decide) (wpAny_truthy_bool ?_)))) hb1)))
  show wpAny _ _ (PySem.isTrue (.BoolOp .And [_] _) _ _) _ _ _
  refine isTrue_and (wpAny_isTrue_Compare1 (zMp ok' nCls rfl (by kernel_rfl) R2 (zCX cok ok' nS (by kernel_rfl) (by kernel_rfl) R2 (wpAny_isNot_ref_self (wpAny_truthy_bool ?_)))) hb2)
  show wpAny _ _ (execs [] _) _ _ _
  refine wpAny_execs_nil ?_
  refine wpAny_execs_cons (wpAny_Return_some (MethodCall_ (zCX cok ok' nO (by kernel_rfl) (by kernel_rfl) R2 (zLG ok' R2 ?_)) (zEg (by unfold mcOk; rw [hp]; rfl))))
  refine zAY (fun a e => nomatch e) rfl (spliced_more (zMp ok' nCls rfl (by kernel_rfl) (s := { s with heap := h₁, toks := t + 1 }) R2 (spliced_none (wpAny_call ?_))) rfl)
  refine zMO XK ?_
  have := fin [] h₁ (by have := back [] _ _ _ (by rw [show (wa W (⟨[], []⟩ : Wd)) = W from Wd.append_nil W]; exact R'); exact this) (t + 1)
  exact this
end
set_option maxHeartbeats 1000000
section
variable {w : World} {F : Fm} {ads : Wd} {s : Shared} {st : St} {E : Value → Shared → Prop}
theorem zLJ {M : Model} {h : Heap} {c : Addr} (st : ∃ o, h.get? cStatics = some o ∧ lookIn "thirdparty.any" o = some none) : Looks M h (opaqueClassAbove (.ref c)) none := by
 obtain ⟨o, ho, e⟩ := st
 have l : Looks M h (nsGet cStatics "thirdparty.any") none := by
  intro A Q E s k q
  refine wpAny_bind (wpAny_loadPart (k _ _ ho) ?_)
  rw [nsLook_of e]
  exact wpAny_pure q
 exact Looks.andThen (a := false) (l.andThen .now) (by show Looks M h (if (!false) = true then pure none else _) none; rw [if_pos (show (!false) = true from rfl)]; exact .now)
theorem zOu {C : Cf} (ok : FmOk C F) (R : Rep w F ads st s.heap) : ∃ o, s.heap.get? cStatics = some o ∧ lookIn "thirdparty.any" o = some none := by
 obtain ⟨m, news, lw, X⟩ := R
 obtain ⟨o, a, b⟩ := ok.G.stat
 exact ⟨o, X.fr.keep _ _ a, b⟩
theorem sm1 (P : Params) : PySem.W.findCls (KK P) (.ref 597) (.type "type") "__new__" = some (PySem.W.CFound.get (.builtin "staticmethod.__get__") (.ref 94) .none (.ref 597)) := by kernel_rfl
theorem sm2 (P : Params) : findIn (KK P) (.type "type") "__getattribute__" = some (some (.builtin "type.__getattribute__")) := by kernel_rfl
theorem sm3 (P : Params) : (if onTheHeap (.type "type") then findIn (KK P) (.type "type") "__getattr__" else some none) = some none := by kernel_rfl
theorem sm4 (P : Params) : subIn (KK P) (.type "type") (.type "type") = some true := by kernel_rfl
theorem sm5 (P : Params) : recIn (KK P) 94 "staticmethod" = some [.ref 90] := by kernel_rfl
theorem sm6 (P : Params) : typeIn (KK P) (.ref 597) = some (.type "type") := by kernel_rfl
theorem zKq {A : Around} {expr : Bool} {Q : Value → Shared → Prop} (X : (KK w.params).In s.heap) (hs : ∃ o, s.heap.get? cStatics = some o ∧ lookIn "thirdparty.any" o = some none) (h : Q (.ref 90) { s with toks := s.toks + 1 }) : wpAny (model prog w) A (getAttr (.ref 597) "__new__" expr) Q E s :=
 cls_open X (zLJ hs) (looks_typeIn X (sm6 _)) (sm2 _) (looks_hook X (sm3 _)) (sm4 _) (sm1 _) (wpAny_bind (wpAny_holding (wpAny_mono (wpAny_call (sm_get (s := { s with toks := s.toks + 1 }) X (sm5 _) (handed_on (E := E) rfl h))) (fun _ _ z => wpAny_pure z) fun _ _ z => z)))
end
section
variable {w : World} {F : Fm} {ads : Wd} {s : Shared} {st : St} {E : Value → Shared → Prop} {A : Around} {Rr : Result → Shared → Prop}
theorem zOl {v : Value} (ok : FmOk (cfN w.params) F) (hA : A.frames = some F.stk) (hh : A.handled = none) (hd : A.depth + 2 < recursionLimit) (R : Rep w F ads st s.heap)
  (fin : ∀ z h' t, Rep w F (wa ads (⟨[], z⟩ : Wd)) st h' → codeAny (model prog w) (A.under (.builtin "type.__call__" ⟨[.ref 597, v], []⟩)) (.call (.ref 367) ⟨[.ref (h'.objs.size + 1), v], []⟩) (InitBack (h'.objs.size + 1) Rr) { s with heap := (h'.push emptyDict).push (instObj 597 h'.objs.size), toks := t }) :
  codeAny (model prog w) A (.call (.ref 597) ⟨[v], []⟩) Rr s := by
 have X : (KK w.params).In s.heap := zGx ok R
 have hs := zOu ok R
 obtain ⟨oc, od, cd, sl, hC, e1, e2⟩ := zJl X
 have call := zOo X
 have typ := zRT X
 have mro := zRU X
 have made := zKo X
 obtain ⟨h0, g, d, t, os⟩ := s
 dsimp only at X hs hC call typ mro made R
 refine codeAny_of_tree ?_
 show wpAny _ _ (callAny (.ref 597) _) _ _ _
 refine nd_load hC ?_
 show wpAny _ _ (callAny.viaDunder (.ref 597) _) _ _ _
 unfold callAny.viaDunder
 refine wpAny_bind (call.at ?_)
 dsimp only
 rw [tc_bind]
 refine wpAny_bind (wpAny_pure (wpAny_bind (wpAny_pure ?_)))
 refine wpAny_pure (a := Fin.again (.call (.builtin "type.__call__") ⟨.ref 597 :: [v], []⟩)) (And.intro rfl ?_)
 refine codeAny_call_builtin_at (Code.quiet_builtin _ (by decide +kernel)) entry_typeCall (check_slot tc_kind tc_split typ (tc_args _ _ _) ?_)
 unfold Builtin.«type.__call__»
 repeat ((fail_if_success (with_reducible show wpAny _ _ (Bind.madeBy _) _ _ _)); first | with_reducible refine wpAny_call ?_ | lk)
 refine made.at ?_
 dsimp only
 refine wpAny_bind (zKq X hs ?_)
 refine wpAny_bind (wpAny_holding (wpAny_call (zUS (s := ⟨h0, g, d, t + 1, os⟩) (A := A.under (.builtin "type.__call__" ⟨[.ref 597, v], []⟩)) ok hA hh (by show A.depth + 1 + 1 < _; omega) R fun z h' R' t' => ?_)))
 have X' : (KK w.params).In h' := zGx (s := ⟨h', g, d, t, os⟩) ok R'
 have k : ∀ b o, h'.get? b = some o → ((h'.push emptyDict).push (instObj 597 h'.objs.size)).get? b = some o := fun b o e => Heap.get?_push_of_some _ (Heap.get?_push_of_some _ e)
 have hx : ((h'.push emptyDict).push (instObj 597 h'.objs.size)).get? (h'.objs.size + 1) = some (instObj 597 h'.objs.size) := by heap_get
 have t1 : Looks (model prog w) ((h'.push emptyDict).push (instObj 597 h'.objs.size)) (typeOf (.ref (h'.objs.size + 1))) (.ref 597) := (Looks.ld hx).andThen .now
 have s1 := (zOk X').keeps k
 have i1 := (zOm X').keeps k
 have b1 := (bind_fn (M := model prog w) X' (f := 367) (.ref (h'.objs.size + 1)) (by kernel_rfl)).keeps k
 dsimp only
 unfold isInstance callSpecial? specialOf
 repeat (first | with_reducible refine wpAny_call ?_ | lk)
 refine codeAny_mono (fin z h' t' R') fun r s' z => ?_
 rcases r with e | (v | _ | _ | _) <;> first | exact z | exact z.elim | skip
 obtain ⟨rfl, z⟩ := z
 exact wpAny_pure (wpAny_pure z)
end
section
variable {w : World} {F : Fm} {ads : Wd} {st : St}
theorem zHo {h : Heap} (c : Addr) (R : Rep w F ads st h) : Rep w F (wa ads (.one (h.objs.size + 1) h.objs.size)) { st with led := st.led ++ [.inst c []] } ((h.push emptyDict).push (instObj c h.objs.size)) := by
 obtain ⟨m, news, lw, X⟩ := R
 have N' := (X.nw.push X.fr emptyDict).push (X.fr.push emptyDict) (instObj c h.objs.size)
 rw [Heap.size_push] at N'
 have efz : (wa ads (Wd.one (h.objs.size + 1) h.objs.size)).fz = ads.fz := by rw [Wd.fz_append]; exact List.append_nil _
 have pm : (news ++ [(h.objs.size + 1, instObj c h.objs.size), (h.objs.size, emptyDict)] ++ (ads.fz ++ lw)).Perm ((h.objs.size + 1, instObj c h.objs.size) :: (h.objs.size, emptyDict) :: (news ++ (ads.fz ++ lw))) := by
  have e : news ++ [(h.objs.size + 1, instObj c h.objs.size), (h.objs.size, emptyDict)] ++ (ads.fz ++ lw) = news ++ ([(h.objs.size + 1, instObj c h.objs.size), (h.objs.size, emptyDict)] ++ (ads.fz ++ lw)) := List.append_assoc _ _ _
  rw [e]
  have := List.perm_append_comm_assoc news [(h.objs.size + 1, instObj c h.objs.size), (h.objs.size, emptyDict)] (ads.fz ++ lw)
  exact this
 refine ⟨m, news ++ [(h.objs.size + 1, instObj c h.objs.size), (h.objs.size, emptyDict)], lw, (X.fr.push _).push _, fun p hp => N' p ?_, X.loc.mono, ?_, ?_, X.ups⟩
 ·rw [efz] at hp
  exact pm.mem_iff.mp hp
 ·have z := (X.led.mono (more := .one (h.objs.size + 1) h.objs.size)).append (LedR.cons (One.inst (C := c) (a := h.objs.size + 1) (d := h.objs.size) (es := []) (n := 0) .nil) LedR.nil)
  rw [List.append_nil] at z
  exact z
 ·rw [efz]
  refine (pm.map (·.1)).nodup_iff.mpr ?_
  rw [List.map_cons, List.nodup_cons, List.map_cons, List.nodup_cons]
  have old : ∀ p ∈ news ++ (ads.fz ++ lw), p.1 < h.objs.size := fun p hp => Heap.lt_size (X.nw p hp).1
  refine ⟨fun ha => ?_, fun ha => ?_, X.nd⟩
  ·rcases List.mem_cons.mp ha with e | ha
   ·exact absurd e (by show h.objs.size + 1 ≠ h.objs.size; lia)
   ·obtain ⟨p, hp, e⟩ := List.mem_map.mp ha
    have := old p hp
    rw [e] at this
    exact absurd this (by show ¬ (h.objs.size + 1 < h.objs.size); lia)
  ·obtain ⟨p, hp, e⟩ := List.mem_map.mp ha
   have := old p hp
   rw [e] at this
   exact Nat.lt_irrefl _ this
end
noncomputable def f367 : FnE := ⟨367, 2, ["self", "initial_value"], [("newline", .str "\n" 756)], zAE s367, zAB s367, "StringIO.__init__", .ref 366, []⟩
theorem zTr (P : Params) : FnOk (KK P) f367 := FnOk.of (by kernel_rfl) (by kernel_rfl) ⟨_, _, _, _, (by kernel_rfl : (KK P).lookup 367 = some (o367 P)), rfl, rfl, fun _ _ => rfl, rfl, rfl, fun s vs X h => by
 obtain ⟨a, b, rfl⟩ := len2 h
 exact binds_K (K := KK P) X rfl (by kernel_rfl : (KK P).lookup 360 = some (o360 P)) rfl (by rfl) (by kernel_rfl)⟩
noncomputable def f374 : FnE := ⟨374, 2, ["self", "s"], [], zAE s374, zAB s374, "StringIO.__translated", .ref 373, []⟩
theorem zTq (P : Params) : FnOk (KK P) f374 := FnOk.of (by kernel_rfl) (by kernel_rfl) ⟨_, _, _, _, (by kernel_rfl : (KK P).lookup 374 = some (o374 P)), rfl, rfl, fun _ _ => rfl, rfl, rfl, fun s vs X h => by
 obtain ⟨a, b, rfl⟩ := len2 h
 exact BindsTo.of_eq (by kernel_rfl)⟩
noncomputable def cfS (P : Params) : Cf where
 K := KK P
 globs := g01
 fns := [f367, f374]
 cls := [c597]
theorem cokS (w : World) : CfOk w (cfS w.params) where
 fns := zAA ⟨zTr _, by kernel_rfl, zAR (by kernel_rfl)⟩ <| zAA ⟨zTq _, by kernel_rfl, zAR (by kernel_rfl)⟩ <| zAD
 cls := zAA (zGg _) <| zAD
 globs := zAn (zNc _)
 sps := zAD
 hxs := zAD
 hss := zAD
theorem zKr (P : Params) (b : Str) (a : SO) (k : Kt) : ev (cfS P) 30 (zAB s367).names (.sts (zAE s367)) { loc := [("self", .obj 1), ("initial_value", .str b), ("newline", .str "\n")], led := [a, .inst 597 []] } k =
   k .next { loc := [("self", .obj 1), ("initial_value", .str b), ("newline", .str "\n")], led := [a, sio b 0] } := by
  kernel_rfl
noncomputable def sioF (svs : List SV) (st : St) (k : Kt) : Prop := on1 svs fun x => onS x fun b => onE1 st.led fun a => k (.v (.obj 1)) { st with led := [a, sio b 0] }
noncomputable def sioSp : SpE := ⟨597, 1, 40, sioF⟩
theorem zKs {svs : List SV} {st : St} {k : Kt} (h : sioF svs st k) : ∃ b a, svs = [.str b] ∧ st.led = [a] ∧ k (.v (.obj 1)) { st with led := [a, sio b 0] } := by
 obtain ⟨x, rfl, h⟩ := zAb h
 obtain ⟨b, rfl, h⟩ := zAh h
 obtain ⟨a, hl, h⟩ := zBi h
 exact ⟨_, _, rfl, hl, h⟩
theorem zSu {w : World} {C : Cf} (hK : C.K = KK w.params) (hC : C.known = true) : SpOk w C sioSp := by
 refine ⟨by rw [hK]; kernel_rfl, ?_⟩
 intro F A ads st s svs vs k Q Rr ok hA hh hd hu h R D hl T hR
 replace hA : true = true → A.frames = some F.stk := fun _ => hA hC
 obtain ⟨b, a, rfl, hled, hk⟩ := zKs h
 have okN : FmOk (cfN w.params) F := zAX (by rw [hK]; rfl) ok (by first | exact fun _ => rfl | exact fun _ => by assumption | exact fun h => h)
 have okS : FmOk (cfS w.params) F := zAX (by rw [hK]; rfl) ok (by first | exact fun _ => rfl | exact fun _ => by assumption | exact fun h => h)
 have d40 : sioSp.d = 40 := rfl
 rw [d40] at hd hu
 cases D with
 | cons dv dr =>
  cases dr
  rename_i v
  refine zOl okN (hA rfl) hh (by lia) R fun z h' t R' => ?_
  have R2 := zHo 597 R'
  rw [Wd.append_assoc] at R2
  have e1 : ads.ads.length = 1 := by have := zBa R; rw [hled] at this; exact this.symm
  have dx : Den F.B (wa ads (wa (⟨[], z⟩ : Wd) (.one (h'.objs.size + 1) h'.objs.size))) (.obj 1) (.ref (h'.objs.size + 1)) := by
   refine ⟨(h'.objs.size + 1, h'.objs.size), ?_, rfl⟩
   rw [Wd.ads_append, ← e1]
   simp [Wd.one, Wd.ads_append]
  let k' : Kt := fun r st' => r = .v .none ∧ st' = { loc := st.loc, led := [a, sio b 0] }
  refine zCe (s := { s with heap := (h'.push emptyDict).push (instObj 597 h'.objs.size), toks := t }) (e := f367) (n := 30) (svs := [.obj 1, .str b]) (k := k') (Q := fun c s' => ∃ u, c = .v u ∧ u = .none ∧ Q (.v (.ref (h'.objs.size + 1))) s') (zBs (cokS w) 30) (cokS w) okS hA hh (by show A.depth + 1 + 30 < _; lia) (by show A.depth + 1 + 1 + 30 < _; lia) (by show A.units + 1 + 3 + 8 * 30 < _; lia) R2 (.cons dx (.cons dv.mono .nil)) (by kernel_rfl) ?_ ?_ ?_
  ·show ev (cfS w.params) 30 (zAB s367).names (.sts (zAE s367)) { loc := [("self", .obj 1), ("initial_value", .str b), ("newline", .str "\n")], led := st.led ++ [.inst 597 []] } _
   rw [hled]
   show ev (cfS w.params) 30 (zAB s367).names (.sts (zAE s367)) { loc := [("self", .obj 1), ("initial_value", .str b), ("newline", .str "\n")], led := [a, .inst 597 []] } _
   rw [zKr]
   exact ⟨rfl, rfl⟩
  ·rintro r st' more c s' ⟨rfl, rfl⟩ R3 nx d
   cases c with
   | v u =>
    refine ⟨u, rfl, d, ?_⟩
    rw [Wd.append_assoc] at R3
    exact T (.v (.obj 1)) _ _ (.v _) s' hk R3 ((Nx.mk' s _ t).trans nx) (by have := dx.mono (more := more); rw [Wd.append_assoc] at this; exact this)
   | _ => exact d.elim
  ·rintro u s' ⟨_, e, rfl, hq⟩
   cases e
   exact ⟨rfl, hR _ _ hq⟩
noncomputable def f656 : FnE := ⟨656, 5, ["self", "instream", "infile", "posix", "punctuation_chars"], [], zAE s656, zAB s656, "shlex.__init__", .ref 655, []⟩
theorem zTn (P : Params) : FnOk (KK P) f656 := FnOk.of (by kernel_rfl) (by kernel_rfl) ⟨_, _, _, _, (by kernel_rfl : (KK P).lookup 656 = some (o656 P)), rfl, rfl, fun _ _ => rfl, rfl, rfl, fun s vs X h => by
 obtain ⟨a, b, c, d, e, rfl⟩ := len5 h
 exact binds_K (K := KK P) X rfl (by kernel_rfl : (KK P).lookup 649 = some (o649 P)) rfl (by rfl) (by kernel_rfl)⟩
theorem zSf (P : Params) (a b : Value) (s : Shared) (X : (KK P).In s.heap) : BindsTo s (fnOf "__init__" "shlex.__init__" (zBJ s656) (zAE s656) (zAB s656) (.ref 649) .none .none (.str "cpy313.shlex" 1087) none (.ref 655) .none) ⟨[a, b], [("posix", .bool true)]⟩ [("self", a), ("instream", b), ("infile", .none), ("posix", .bool true), ("punctuation_chars", .bool false)] :=
 binds_K (K := KK P) X rfl (by kernel_rfl : (KK P).lookup 649 = some (o649 P)) rfl (by rfl) (by kernel_rfl)
noncomputable def g02 : List (Str × Value) := ("StringIO", .ref 597) :: g01
theorem zUg (P : Params) : ∀ p ∈ g02, zDh (KK P) p := zAA ⟨by kernel_rfl, .inl (by kernel_rfl)⟩ (zNc P)
noncomputable def cfX (P : Params) : Cf where
 K := KK P
 globs := g02
 fns := [f656]
 cls := [c597, c732]
 sps := [sioSp]
theorem cokX (w : World) : CfOk w (cfX w.params) where
 fns := zAA ⟨zTn _, by kernel_rfl, zAR (by kernel_rfl)⟩ <| zAD
 cls := zAA (zGg _) <| zAA (zIV _) <| zAD
 globs := zAn (zUg _)
 sps := zAA (zSu rfl rfl) <| zAD
 hxs := zAD
 hss := zAD
noncomputable abbrev zHy (b : Str) : List SO := .inst 732 [("instream", .obj 1), ("infile", .none), ("posix", .bool true), ("eof", .none), ("commenters", .str "#"), ("wordchars", .str wch), ("whitespace", .str " \t\r\n"), ("whitespace_split", .bool false), ("quotes", .str "'\""), ("escape", .str "\\"), ("escapedquotes", .str "\""), ("state", .str " "), ("pushback", .obj 2), ("lineno", .int 1), ("debug", .int 0), ("token", .str ""), ("filestack", .obj 3), ("source", .none), ("_punctuation_chars", .str "")] :: sio b 0 :: dqO :: dqO :: []
theorem zLK (P : Params) (b : Str) (k : Kt) : ev (cfX P) 80 (zAB s656).names (.sts (zAE s656)) { loc := [("self", .obj 0), ("instream", .str b), ("infile", .none), ("posix", .bool true), ("punctuation_chars", .bool false)], led := [.inst 732 []] } k =
   ("str" = "str" ∧ 63 + 62 ≤ sizeLine ∧ k .next { loc := [("self", .obj 0), ("instream", .obj 1), ("infile", .none), ("posix", .bool true), ("punctuation_chars", .str "")], led := zHy b }) := by
  kernel_rfl
theorem zPM {w : World} {F : Fm} {ads : Wd} {s : Shared} {st : St} {A : Around} {Rr : Result → Shared → Prop} {b : Str} {v : Value} {C : Cf} (hK : C.K = KK w.params) (hC : C.known = true) (ok : FmOk C F) (hA : A.frames = some F.stk) (hh : A.handled = none) (hd : A.depth + 90 < recursionLimit) (hu : A.units + 8 * 90 < cLine)
  (hled : st.led = []) (R : Rep w F ads st s.heap) (dv : Den F.B ads (.str b) v)
  (fin : ∀ more s' u, Rep w F (wa ads more) { loc := st.loc, led := zHy b } s'.heap → Nx F s s' → Den F.B (wa ads more) (.obj 0) u → Rr (.ok (.ret u)) s') :
  codeAny (model prog w) A (.call (.ref 732) ⟨[v], [("posix", .bool true)]⟩) Rr s := by
 have okX : FmOk (cfX w.params) F := zAX (by rw [hK]; rfl) ok (by first | exact fun _ => rfl | exact fun _ => by assumption | exact fun h => h)
 have X : (KK w.params).In s.heap := zGx okX R
 obtain ⟨hh0, g, d, t, os⟩ := s
 dsimp only at X R
 refine make_core (makes_of X (by kernel_rfl)) (looks_findIn X (by kernel_rfl : findIn (KK w.params) (.ref 732) "__init__" = some (some (.ref 656)))) (fun self => bind_fn X self (by kernel_rfl)) (.inl rfl) ?_
 have R2 := zHo 732 R
 have e1 : ads.ads.length = 0 := by have := zCN R; rw [hled] at this; exact this.symm
 have dx : Den F.B (wa ads (.one (hh0.objs.size + 1) hh0.objs.size)) (.obj 0) (.ref (hh0.objs.size + 1)) := by
  refine ⟨(hh0.objs.size + 1, hh0.objs.size), ?_, rfl⟩
  have := zCu ads (hh0.objs.size + 1) hh0.objs.size
  rw [e1] at this; exact this
 let k' : Kt := fun r st' => r = .v .none ∧ st' = { loc := st.loc, led := zHy b }
 refine zDf (s := ⟨(hh0.push emptyDict).push (instObj 732 hh0.objs.size), g, d, t, os⟩) (e := f656) (n := 80) (svs := [.obj 0, .str b, .none, .bool true, .bool false]) (vs := [.ref (hh0.objs.size + 1), v, .none, .bool true, .bool false]) (k := k') (Q := fun c s' => ∃ u, c = .v u ∧ u = .none ∧ Rr (.ok (.ret (.ref (hh0.objs.size + 1)))) s') (zBs (cokX w) 80) (cokX w) okX (fun _ => hA) hh (by show A.depth + 1 + 80 < _; lia) (by show A.depth + 1 + 1 + 80 < _; lia) (by show A.units + 1 + 3 + 8 * 80 < _; lia) R2 (.cons dx (.cons dv.mono (.cons rfl (.cons rfl (.cons rfl .nil))))) (by kernel_rfl) (fun oc od osl fd g1 XK => ?_) ?_ ?_ ?_
 ·have e : (KK w.params).lookup 656 = some (o656 w.params) := by kernel_rfl
  have e' := e.symm.trans g1
  cases e'
  exact zSf w.params _ v _ XK
 ·show ev (cfX w.params) 80 (zAB s656).names (.sts (zAE s656)) { loc := [("self", .obj 0), ("instream", .str b), ("infile", .none), ("posix", .bool true), ("punctuation_chars", .bool false)], led := st.led ++ [.inst 732 []] } _
  rw [hled]
  show ev (cfX w.params) 80 (zAB s656).names (.sts (zAE s656)) { loc := [("self", .obj 0), ("instream", .str b), ("infile", .none), ("posix", .bool true), ("punctuation_chars", .bool false)], led := [.inst 732 []] } _
  rw [zLK]
  exact ⟨rfl, by decide, rfl, rfl⟩
 ·rintro r st' more c s' ⟨rfl, rfl⟩ R3 nx dd
  cases c with
  | v u =>
   refine ⟨u, rfl, dd, ?_⟩
   have := dx.mono (more := more)
   rw [Wd.append_assoc] at R3 this
   exact fin _ s' _ R3 ((Nx.mk' _ _ t).trans nx) this
  | _ => exact dd.elim
 ·rintro u s' ⟨_, e, rfl, hq⟩
  cases e
  exact ⟨rfl, hq⟩
noncomputable def s744 : Stmt := stAt 23 B01
noncomputable def f744 : FnE := ⟨744, 1, ["s"], [("comments", .bool false), ("posix", .bool true)], zAE s744, zAB s744, "split", .ref 743, []⟩
theorem zQR (P : Params) : FnOk (KK P) f744 := FnOk.of (by kernel_rfl) (by kernel_rfl) ⟨_, _, _, _, (by kernel_rfl : (KK P).lookup 744 = some (o744 P)), rfl, rfl, fun _ _ => rfl, rfl, rfl, fun s vs X h => by
 obtain ⟨a, rfl⟩ := len1 h
 exact binds_K (K := KK P) X rfl (by kernel_rfl : (KK P).lookup 737 = some (o737 P)) rfl (by rfl) (by kernel_rfl)⟩
noncomputable def aVal : Stmt → Expr
 | .Assign _ v _ => v
 | _ => default
noncomputable def rVal : Stmt → Expr
 | .Return (some v) _ => v
 | _ => default
noncomputable def cPos : Expr → Pos
 | .Call _ _ _ p => p
 | _ => default
noncomputable def shE : Expr := aVal (stAt 1 (zAE s744))
noncomputable def liE : Expr := rVal (stAt 4 (zAE s744))
noncomputable def shF (ns : List (Str × NameKind)) (st : St) (k : Kt) : Prop := zBW (lk "s" st.loc) fun x => onS x fun b => zBW (lk "posix" st.loc) fun y => onBo y (onNl st.led (ns = (zAB s744).names ∧ k (.v (.obj 0)) { loc := st.loc, led := zHy b }))
theorem zMP {ns : List (Str × NameKind)} {st : St} {k : Kt} (h : shF ns st k) : ∃ b, lk "s" st.loc = some (.str b) ∧ lk "posix" st.loc = some (.bool true) ∧ st.led = [] ∧ ns = (zAB s744).names ∧ k (.v (.obj 0)) { loc := st.loc, led := zHy b } := by
 unfold shF at h
 obtain ⟨x, hb, h⟩ := zAM h
 obtain ⟨b, rfl, h⟩ := zAh h
 obtain ⟨y, hp, h⟩ := zAM h
 obtain ⟨rfl, h⟩ := zMj h
 obtain ⟨hl, h⟩ := zMh h
 exact ⟨b, hb, hp, hl, h⟩
noncomputable def shHk : HkE Expr := ⟨(cPos shE).line, (cPos shE).col, 100, shE, shF⟩
noncomputable def liF (b : Str) (toks : List Str) (ns : List (Str × NameKind)) (st : St) (k : Kt) : Prop :=
 ns = (zAB s744).names ∧ lk "lex" st.loc = some (.obj 0) ∧ st.led = zAC (.str " ") (.str "") 1 b 0 [] ∧ LexAll b (.str " ") 1 0 toks ∧ toks.length ≤ sizeLine ∧ ∀ q i p, k (.v (.obj 4)) { loc := st.loc, led := zAC q (.str "") i b p [.list (toks.map .str)] }
noncomputable def liHk (b : Str) (toks : List Str) : HkE Expr := ⟨(cPos liE).line, (cPos liE).col, 160, liE, liF b toks⟩
theorem zUL : ∃ p1 p2 p3 p4 p5, shE = .Call (.Name "shlex" p1) [.Name "s" p2] [⟨some "posix", .Name "posix" p3, p4⟩] p5 := ⟨kp shE [0], kp shE [1], (kw0 shE).value.pos, (kw0 shE).pos, kp shE [], by kernel_rfl⟩
theorem zUT : ∃ p1 p2 p5, liE = .Call (.Name "list" p1) [.Name "lex" p2] [] p5 := ⟨kp liE [0], kp liE [1], kp liE [], by kernel_rfl⟩
noncomputable def g03 : List (Str × Value) := [("shlex", .ref 732), ("list", .type "list")]
theorem zTX (P : Params) : ∀ p ∈ g03, zDh (KK P) p := zAA ⟨by kernel_rfl, .inl (by kernel_rfl)⟩ <| zAA ⟨by kernel_rfl, .inr ⟨by kernel_rfl, by kernel_rfl, by kernel_rfl⟩⟩ zAD
noncomputable def cf3 (P : Params) : Cf where
 K := KK P
 globs := g03
 fns := []
 cls := []
theorem cok3 (w : World) : CfOk w (cf3 w.params) := ⟨zAD, zAD, zAn (zTX _), zAD, zAD, zAD⟩
section
variable {w : World} {C : Cf} {F : Fm} {ads : Wd} {s : Shared} {st : St} {E : Value → Shared → Prop}
theorem zHw {A : Around} {x : Str} {p : Pos} {sv : SV} {Q : Value → Shared → Prop} (ok : FmOk C F) (hk : zAd x F.sc.names = some .local) (hv : lk x st.loc = some sv) (hdb : Fast.sEq x "__debug__" = false)
  (R : Rep w F ads st s.heap) (q : ∀ u, Den F.B ads sv u → Q u s) : wpAny (model prog w) A (eval (.Name x p) F.env) Q E s := by
 rw [zAW] at hk
 obtain ⟨m, news, lw, u, X, a, b⟩ := zDN R hv
 exact ldE ok X.fr hk a (q u b) (by rw [zBm]; exact hdb)
theorem zLX {f : Expr} {args : List Expr} {kws : List Keyword} {pos : Pos} {env : Env} {A : Around} {M : Model} {Q : Value → Shared → Prop} (h : wpAny M A (eval f env) (fun f s₁ => wpAny M A (callWith pos f [] (backTo pos (starEach args env)) (backToKw pos (keywordEach kws env))) Q E s₁) E s)
  (he : eval (.Call f args kws pos) env = (do callWith pos (← eval f env) [] (backTo pos (starEach args env)) (backToKw pos (keywordEach kws env)))) :
  wpAny M A (eval (.Call f args kws pos) env) Q E s := by
 rw [he]; exact wpAny_bind h
theorem zRV (hK : C.K = KK w.params) (hC : C.known = true) : HxOk w C shHk := by
 intro F E ads st s k Q ok hd hu h R T
 obtain ⟨b, hb, hp, hl, hns, hk⟩ := zMP h
 obtain ⟨p1, p2, p3, p4, p5, e⟩ := zUL
 show wpAny (model prog w) F.A (eval shE F.env) (fun v s' => Q (.v v) s') E s
 rw [e]
 have ok3 : FmOk (cf3 w.params) F := zAX (by rw [hK]; rfl) ok (by first | exact fun _ => rfl | exact fun _ => by assumption | exact fun h => h)
 have d100 : shHk.d = 100 := rfl
 rw [d100] at hd hu
 have X : (KK w.params).In s.heap := zGx ok3 R
 refine zLX (zCX (cok3 w) ok3 (by rw [hns]; kernel_rfl) (by kernel_rfl : lk "shlex" g03 = some (.ref 732)) (by kernel_rfl) R ?_) (by rfl)
 refine callWith_KW (K := KK w.params) X (by kernel_rfl) rfl ?_
 refine spliced_more (zHw ok3 (by rw [hns]; kernel_rfl) hb (by kernel_rfl) R fun v dv => spliced_none ?_) rfl
 refine wpAny_evalAll_cons (wpAny_bind (zHw ok3 (by rw [hns]; kernel_rfl) hp (by kernel_rfl) R fun v2 d2 => wpAny_bind (wpAny_standAt (wpAny_pure (wpAny_evalAll_nil ⟨X, ?_⟩)))))
 cases d2
 refine wpAny_call ?_
 refine zPM hK hC ok (ok.stack hC) ok.hand (by show F.A.depth + 90 < _; lia) (by show F.A.units + 8 * 90 < _; lia) hl R dv fun more s' u R' nx du => ?_
 exact T (.v (.obj 0)) _ more (.v u) s' hk R' nx du
theorem zRs (hK : C.K = KK w.params) (hC : C.known = true) (b : Str) (toks : List Str) : HxOk w C (liHk b toks) := by
 intro F E ads st s k Q ok hd hu h R T
 obtain ⟨hns, hx, hl, hL, hlen, hk⟩ := h
 obtain ⟨p1, p2, p5, e⟩ := zUT
 show wpAny (model prog w) F.A (eval liE F.env) (fun v s' => Q (.v v) s') E s
 rw [e]
 have ok3 : FmOk (cf3 w.params) F := zAX (by rw [hK]; rfl) ok (by first | exact fun _ => rfl | exact fun _ => by assumption | exact fun h => h)
 have okK : FmOk (cfK w.params) F := zAX (by rw [hK]; rfl) ok (by first | exact fun _ => rfl | exact fun _ => by assumption | exact fun h => h)
 have d100 : (liHk b toks).d = 160 := rfl
 rw [d100] at hd hu
 refine Call_ (zCX (cok3 w) ok3 (by rw [hns]; kernel_rfl) (by kernel_rfl : lk "list" g03 = some (.type "list")) (by kernel_rfl) R ?_)
 refine zAY (fun a e => nomatch e) rfl (spliced_more (zHw ok3 (by rw [hns]; kernel_rfl) hx (by kernel_rfl) R fun v dv => spliced_none ?_) rfl)
 exact zPJ okK (by lia) (by lia) hL hlen trivial R dv hl fun more s' u q' i' p' R' nx du => T (.v (.obj 4)) _ more (.v u) s' (hk q' i' p') R' nx du
end
noncomputable def cfY (P : Params) (b : Str) (toks : List Str) : Cf where
 K := KK P
 globs := g03
 fns := [f744]
 cls := [c597, c732]
 hxs := [shHk, liHk b toks]
theorem cokY (w : World) (b : Str) (toks : List Str) : CfOk w (cfY w.params b toks) where
 fns := zAA ⟨zQR _, by kernel_rfl, zAR (by kernel_rfl)⟩ <| zAD
 cls := zAA (zGg _) <| zAA (zIV _) <| zAD
 globs := zAn (zTX _)
 sps := zAD
 hxs := zAA (zRV rfl rfl) <| zAA (zRs rfl rfl b toks) <| zAD
 hss := zAD
theorem zOU (P : Params) (b : Str) (toks : List Str) (k : Kt) : ev (cfY P b toks) 200 (zAB s744).names (.sts (zAE s744)) { loc := [("s", .str b), ("comments", .bool false), ("posix", .bool true)], led := [] } k =
   (shE = shE ∧ (zAB s744).names = (zAB s744).names ∧ (liE = liE ∧ ((zAB s744).names = (zAB s744).names ∧ some (SV.obj 0) = some (.obj 0) ∧ zAC (.str " ") (.str "") 1 b 0 [] = zAC (.str " ") (.str "") 1 b 0 [] ∧ LexAll b (.str " ") 1 0 toks ∧ toks.length ≤ sizeLine ∧
     ∀ q i p, k (.ret (.obj 4)) { loc := [("s", .str b), ("comments", .bool false), ("posix", .bool true), ("lex", .obj 0)], led := zAC q (.str "") i b p [.list (toks.map .str)] }))) := by
  kernel_rfl
noncomputable def zJj (svs : List SV) (st : St) (k : Kt) : Prop := on1 svs fun x => onS x fun b => ∃ toks, LexAll b (.str " ") 1 0 toks ∧ toks.length ≤ sizeLine ∧ k (.v (.dat (.list (toks.map .str)))) st
noncomputable def splitSp : SpE := ⟨744, 1, 220, zJj⟩
theorem zIL {led : List SO} : ∀ (l : List Str), FrzL led (l.map .str) (l.map .str)
 | [] => .nil
 | a :: r => .cons (.str a) (zIL r)
theorem zOT {w : World} {C : Cf} (hK : C.K = KK w.params) (hC : C.known = true) : SpOk w C splitSp := by
 refine ⟨by rw [hK]; kernel_rfl, ?_⟩
 intro F A ads st s svs vs k Q Rr ok hA hh hd hu h R D hl T hR
 replace hA : true = true → A.frames = some F.stk := fun _ => hA hC
 have h' : ∃ b toks, svs = [.str b] ∧ LexAll b (.str " ") 1 0 toks ∧ toks.length ≤ sizeLine ∧ k (.v (.dat (.list (toks.map .str)))) st := by
  change zJj svs st k at h
  obtain ⟨x, rfl, h⟩ := zAb h
  obtain ⟨b, rfl, toks, a⟩ := zAh h
  exact ⟨_, toks, rfl, a⟩
 obtain ⟨b, toks, rfl, hL, hlen, hk⟩ := h'
 have okY : FmOk (cfY w.params b toks) F := zAX (by rw [hK]; rfl) ok (by first | exact fun _ => rfl | exact fun _ => by assumption | exact fun h => h)
 have d40 : splitSp.d = 220 := rfl
 rw [d40] at hd hu
 refine zBS (e := f744) (n := 200) (led₁ := []) (led₂ := st.led) (zBs (cokY w b toks) 200) (zQR _) okY hA hh (by lia) (by lia) R D hl rfl trivial (fun x hx => by rw [List.mem_singleton.mp hx]; exact trivial) List.nodup_nil ?_ T hR
 show ev (cfY w.params b toks) 200 (zAB s744).names (.sts (zAE s744)) { loc := [("s", .str b), ("comments", .bool false), ("posix", .bool true)], led := [] } _
 rw [zOU]
 refine ⟨rfl, rfl, rfl, rfl, rfl, rfl, hL, hlen, fun q i p => ⟨_, _, [], .inl rfl, .frz (d := .list (toks.map .str)) (.list (i := 4) (xs := toks.map .str) rfl (by simpa using hlen) (zIL toks)), .nil, hk⟩⟩
open PySem.Sre
noncomputable def cdQ : Array Nat := #[14, 17, 4, 1, 1, 21, 9, 0, 604043296, 1, 0, 0, 0, 0, 0, 8, 4, 0, 13, 14, 21, 9, 0, 604043296, 1, 0, 0, 0, 0, 0, 8, 4, 0, 1]
noncomputable def chQ : Array Nat := #[0, 604043296, 1, 0, 0, 0, 0, 0]
noncomputable def bad (c : Nat) : Bool := !((decide (c < 256) && (chQ.getD (c / 32) 0).testBit (c % 32)) || isWord c)
theorem zUE {c : Nat} (b : Nat) (hb : b = 6 ∨ b = 21) (h : c < 256) : cdQ.getD (b + (1 + c / 32)) 0 = chQ.getD (c / 32) 0 := by
 have key : ∀ d : Fin 8, cdQ.getD (6 + (1 + d.1)) 0 = chQ.getD d.1 0 ∧ cdQ.getD (21 + (1 + d.1)) 0 = chQ.getD d.1 0 := by decide +kernel
 have k := key ⟨c / 32, by lia⟩
 rcases hb with rfl | rfl
 ·exact k.1
 ·exact k.2
theorem zGY (c : Nat) (b : Nat) (hb : b = 6 ∨ b = 21) (seen : Sre.Seen) : ∃ seen', inSet cdQ c 33 b false seen = .ok (bad c, seen') := by
 have e1 : inSet cdQ c 33 b false seen = (if decide (c < 256) && (cdQ.getD (b + (1 + c / 32)) 0).testBit (c % 32) then .ok (false, seen.add 9) else inSet cdQ c 32 (b + 9) false (seen.add 9)) := by
  rcases hb with rfl | rfl <;> rfl
 have e2 : ∀ s2 : Sre.Seen, ∃ s3, inSet cdQ c 32 (b + 9) false s2 = .ok (!isWord c, s3) := by
  intro s2
  have e : inSet cdQ c 32 (b + 9) false s2 = (do if ← category 4 c then pure (false, (s2.add 8).add (55 + 4)) else inSet cdQ c 31 (b + 11) false ((s2.add 8).add (55 + 4))) := by
   rcases hb with rfl | rfl <;> rfl
  have ec : category 4 c = .ok (isWord c) := by
   show Except.ok (isWord c != (4 % 2 == 1)) = _
   cases isWord c <;> rfl
  rw [e, ec]
  cases isWord c with
  | true => exact ⟨_, rfl⟩
  | false =>
   refine ⟨((s2.add 8).add (55 + 4)).add 0, ?_⟩
   rcases hb with rfl | rfl <;> rfl
 rw [e1]
 unfold bad
 by_cases h : c < 256
 ·rw [zUE b hb h]
  cases q : (chQ.getD (c / 32) 0).testBit (c % 32) with
  | true => rw [decide_eq_true h]; exact ⟨_, rfl⟩
  | false =>
   rw [decide_eq_true h]
   obtain ⟨s3, e3⟩ := e2 (seen.add 9)
   exact ⟨s3, by simpa using e3⟩
 ·rw [decide_eq_false h]
  obtain ⟨s3, e3⟩ := e2 (seen.add 9)
  exact ⟨s3, by simpa using e3⟩
theorem zTT (c : Nat) (seen : Sre.Seen) : ∃ seen', inSet cdQ c cdQ.size 5 true seen = .ok (bad c, seen') := zGY c 6 (.inl rfl) (seen.add 21)
theorem zSK (c : Nat) (seen : Sre.Seen) : ∃ seen', inSet cdQ c cdQ.size 20 true seen = .ok (bad c, seen') := zGY c 21 (.inr rfl) (seen.add 21)
theorem zJV (m : M) (hc : m.code = cdQ) : ∀ (fuel s : Nat) (seen : Sre.Seen), s ≤ m.lim → m.lim + 1 - s = fuel →
  ((∀ i, s ≤ i → i < m.lim → bad (m.text.getD i 0) = false) → ∃ seen', m.admitted fuel s seen = .ok (none, seen')) ∧
  ((∃ i, s ≤ i ∧ i < m.lim ∧ bad (m.text.getD i 0) = true) → ∃ i seen', i < m.lim ∧ bad (m.text.getD i 0) = true ∧ m.admitted fuel s seen = .ok (some i, seen')) := by
 intro fuel
 induction fuel with
 | zero => intro s seen h1 h2; omega
 | succ n ih =>
  intro s seen h1 h2
  by_cases hs : s ≥ m.lim
  ·have e : m.admitted (n + 1) s seen = .ok (none, seen) := by
    unfold M.admitted
    rw [if_pos hs]
   refine ⟨fun _ => ⟨seen, e⟩, fun ⟨i, a, b, _⟩ => by omega⟩
  ·obtain ⟨s2, e2⟩ := zTT (m.text.getD s 0) seen
   have e : m.admitted (n + 1) s seen = (match (Except.ok (bad (m.text.getD s 0), s2) : Except String (Bool × Sre.Seen)) with
    | .ok (true, seen) => .ok (some s, seen)
    | .ok (false, seen) => m.admitted n (s + 1) seen
    | .error why => .error why) := by
    rw [← e2, ← hc]
    conv => lhs; unfold M.admitted
    rw [if_neg hs]
    generalize inSet m.code (m.text.getD s 0) m.code.size 5 true seen = x
    rcases x with _ | ⟨_ | _, _⟩ <;> rfl
   rw [e]
   cases hb : bad (m.text.getD s 0) with
   | true =>
    refine ⟨fun h => ?_, fun _ => ⟨s, s2, by omega, hb, rfl⟩⟩
    have := h s (Nat.le_refl _) (by omega)
    rw [hb] at this; cases this
   | false =>
    obtain ⟨i1, i2⟩ := ih (s + 1) s2 (by omega) (by omega)
    refine ⟨fun h => i1 fun i a b => h i (by omega) b, fun ⟨i, a, b, c⟩ => i2 ⟨i, ?_, b, c⟩⟩
    rcases Nat.lt_or_ge s i with q | q
    ·exact q
    ·have : i = s := by omega
     subst this
     rw [hb] at c; cases c
theorem zSV (m : M) (hc : m.code = cdQ) (hpc : m.pc = 18) (hp : m.pos < m.lim) (hb : bad (m.text.getD m.pos 0) = true) : ∃ seen', m.exec = { m with seen := seen', pc := 33, pos := m.pos + 1 } := by
 obtain ⟨code, text, lim, start, lastStart, wholeText, mustAdvance, pc, pos, handed, outermost, marks, lastmark, lastindex, loops, inner, frames, weight, answer, seen, outcome⟩ := m
 dsimp only at hc hpc hp hb
 subst hc hpc
 obtain ⟨s2, e2⟩ := zSK (text.getD pos 0) (seen.add 13)
 rw [hb] at e2
 refine ⟨s2, ?_⟩
 have ea : accepts cdQ 18 (text.getD pos 0) (seen.add 13) = .ok (true, s2) := e2
 have step : M.exec ⟨cdQ, text, lim, start, lastStart, wholeText, mustAdvance, 18, pos, handed, outermost, marks, lastmark, lastindex, loops, inner, frames, weight, answer, seen, outcome⟩ =
   (if pos ≥ lim then M.say ⟨cdQ, text, lim, start, lastStart, wholeText, mustAdvance, 18, pos, handed, outermost, marks, lastmark, lastindex, loops, inner, frames, weight, answer, seen.add 13, outcome⟩ false else
   match accepts cdQ 18 (text.getD pos 0) (seen.add 13) with
   | .error why => M.stick ⟨cdQ, text, lim, start, lastStart, wholeText, mustAdvance, 18, pos, handed, outermost, marks, lastmark, lastindex, loops, inner, frames, weight, answer, seen.add 13, outcome⟩ why
   | .ok (false, seen) => M.say ⟨cdQ, text, lim, start, lastStart, wholeText, mustAdvance, 18, pos, handed, outermost, marks, lastmark, lastindex, loops, inner, frames, weight, answer, seen, outcome⟩ false
   | .ok (true, seen) => ⟨cdQ, text, lim, start, lastStart, wholeText, mustAdvance, 33, pos + 1, handed, outermost, marks, lastmark, lastindex, loops, inner, frames, weight, answer, seen, outcome⟩) := by
  rfl
 rw [step, if_neg (by omega), ea]
noncomputable def zHA (s : Nat) : Sre.Frame := { wait := .nextStart, pc := 18, pos := s, outermost := true }
theorem zMU (m : M) (hc : m.code = cdQ) (hpc : m.pc = 18) (ho : m.outermost = true) (hw : m.wholeText = false) (ha : m.mustAdvance = false) (hf : m.frames = [zHA m.pos]) (hn : m.answer = none) (hoc : m.outcome = none) (hp : m.pos < m.lim) (hb : bad (m.text.getD m.pos 0) = true) :
  (m.runFor 4).outcome = some .matched := by
 obtain ⟨s2, e⟩ := zSV m hc hpc hp hb
 obtain ⟨code, text, lim, start, lastStart, wholeText, mustAdvance, pc, pos, handed, outermost, marks, lastmark, lastindex, loops, inner, frames, weight, answer, seen, outcome⟩ := m
 dsimp only at hc hpc ho hw ha hf hn hoc hp hb e
 subst hc hpc ho hw ha hf hn hoc
 have e1 : M.step ⟨cdQ, text, lim, start, lastStart, false, false, 18, pos, handed, true, marks, lastmark, lastindex, loops, inner, [zHA pos], weight, none, seen, none⟩ = M.exec ⟨cdQ, text, lim, start, lastStart, false, false, 18, pos, handed, true, marks, lastmark, lastindex, loops, inner, [zHA pos], weight, none, seen, none⟩ := rfl
 show (M.runFor 3 (M.step _)).outcome = _
 rw [e1, e]
 rfl
theorem zOt (m : M) (b : Bool) (ha : m.answer = some b) (hf : m.frames = []) (hoc : m.outcome = none) : (m.runFor 4).outcome = some (if b then .matched else .failed) := by
 obtain ⟨code, text, lim, start, lastStart, wholeText, mustAdvance, pc, pos, handed, outermost, marks, lastmark, lastindex, loops, inner, frames, weight, answer, seen, outcome⟩ := m
 dsimp only at ha hf hoc
 subst ha hf hoc
 rfl
noncomputable def zFl (t : Array Nat) : Prop := ∃ i, i < t.size ∧ bad (t.getD i 0) = true
theorem zMR (t : Array Nat) (hn : t.size ≠ 0) : ((∀ i, i < t.size → bad (t.getD i 0) = false) → ((forSearch cdQ t 0 0 t.size false).runFor 4).outcome = some .failed) ∧
  (zFl t → ((forSearch cdQ t 0 0 t.size false).runFor 4).outcome = some .matched) := by
 let m0 : M := { code := cdQ, text := t, lim := t.size, start := 0, pc := 18, pos := 0, handed := 0, marks := Array.replicate (2 * 0) none, mustAdvance := false, seen := ({} : Sre.Seen).add 14, lastStart := t.size }
 have e : forSearch cdQ t 0 0 t.size false = m0.attemptFrom 0 true := by
  have : ¬ ((decide (0 > t.size) || decide (t.size - 0 < 1)) = true) := by
   rw [decide_eq_false (by lia), decide_eq_false (by lia)]; decide
  show (if (decide (0 > t.size) || decide (t.size - 0 < 1)) = true then M.say { m0 with lastStart := 0 } false else m0.attemptFrom 0 true) = _
  rw [if_neg this]
 have e2 : m0.attemptFrom 0 true = (match M.admitted m0 (t.size + 1 - 0) 0 m0.seen with
  | .ok (some s, seen) => { m0 with mustAdvance := false, seen }.attemptAt s true
  | .ok (none, seen) => { m0 with seen }.say false
  | .error why => m0.stick why) := rfl
 obtain ⟨a1, a2⟩ := zJV m0 rfl (t.size + 1 - 0) 0 m0.seen (Nat.zero_le _) rfl
 rw [e, e2]
 constructor
 ·intro h
  obtain ⟨s2, q⟩ := a1 fun i _ hi => h i hi
  rw [q]
  exact zOt _ false rfl rfl rfl
 ·rintro ⟨i, hi, hb⟩
  obtain ⟨s, s2, hs, hb', q⟩ := a2 ⟨i, Nat.zero_le _, hi, hb⟩
  rw [q]
  exact zMU _ rfl rfl rfl rfl rfl rfl rfl rfl hs hb'
open PySem.Builtin.Re
theorem zIP : entryFor table "re.Pattern.search" = some Builtin.«re.Pattern.search» := entryFor_of_tree (by kernel_rfl)
section
variable {w : World} {h : Heap}
theorem zMS (X : (KK w.params).In h) (b : Str) (t : Tok) : Looks (model prog w) h (reTarget "re.Pattern.search" "search" ⟨[.ref 49, .str b t], []⟩)
  { pattern := .ref 49, string := .str b t, code := cdQ, text := b.cps, kind := 0, groups := 0, pos := min (0 : Int).toNat b.cps.size, lim := min (2 ^ 63 - 1 : Int).toNat b.cps.size } := Looks.of_peek X (by kernel_rfl)
theorem zOs (X : (KK w.params).In h) (b : Str) (t : Tok) : Looks (model prog w) h (checkBoundCall "re.Pattern.search" ⟨[.ref 49, .str b t], []⟩) () := Looks.of_peek X (by kernel_rfl)
end
theorem wpAny_noted {M : Model} {A : Around} {E : Value → Shared → Prop} {s : Shared} {p : Nat → Bool} {f : Nat → String} {Q : Unit → Shared → Prop} : ∀ (l : List Nat), Q () s →
  wpAny M A (forIn l () fun i _ => (if p i = true then rule (f i) >>= fun _ => pure (ForInStep.yield ()) else pure (ForInStep.yield ())) : Sem Unit) Q E s
 | [], q => wpAny_pure q
 | a :: r, q => by
  rw [List.forIn_cons]
  refine wpAny_bind ?_
  split
  ·exact wpAny_bind (wpAny_rule (wpAny_pure (wpAny_noted r q)))
  ·exact wpAny_pure (wpAny_noted r q)
theorem zLS {M : Model} {A : Around} {E : Value → Shared → Prop} {s : Shared} {m : Sre.M} {Q : Sre.M → Shared → Prop} {n : Nat} (h : (m.runFor 4).outcome.isSome = true) (q : Q (m.runFor 4) s) : wpAny M A (reDrive (n + 1) m) Q E s := by
 show wpAny M A (if (m.runFor 4).outcome.isSome = true then pure (m.runFor 4) else rule "sre.turn" >>= fun _ => reDrive n (m.runFor 4)) Q E s
 rw [if_pos h]
 exact wpAny_pure q
theorem zPy {M : Model} {A : Around} {E : Value → Shared → Prop} {s : Shared} {m : Sre.M} {Q : Option Sre.M → Shared → Prop} (b : Bool) (h : (m.runFor 4).outcome = some (if b then .matched else .failed)) (q : Q (if b then some (m.runFor 4) else none) s) : wpAny M A (reRunToEnd m) Q E s := by
 unfold reRunToEnd
 have e : (2 ^ 64 : Nat) = 18446744073709551615 + 1 := by rfl
 rw [e]
 refine wpAny_bind (zLS (by rw [h]; rfl) ?_)
 refine wpAny_bind ?_
 refine wpAny_noted (p := fun i => (Sre.M.runFor 4 m).seen.has i) (f := fun i => Sre.names.getD i "") _ ?_
 rw [h]
 cases b <;> exact wpAny_pure q
theorem zMT {M : Model} {A : Around} {E : Value → Shared → Prop} {s : Shared} {m : Sre.M} {p v : Value} {lo hi : Nat} {Q : Value → Shared → Prop} (q : ∀ o1 o2, Q (.ref (s.heap.objs.size + 1)) { s with heap := (s.heap.push o1).push o2 }) :
  wpAny M A (reNewMatch p v 0 lo hi m) Q E s := by
 show wpAny M A (newTuple (rawInt m.start :: rawInt m.handed :: []) >>= fun tp => newFields "re.Match" [v, p, rawInt lo, rawInt hi, rawInt m.lastindex, tp]) Q E s
 refine wpAny_bind (wpAny_newTuple ?_ (by show 2 ≤ sizeLine; decide))
 unfold newFields
 refine wpAny_newObj_type ?_
 have := q { cls := .type "tuple", data := .seq #[rawInt m.start, rawInt m.handed] } { cls := .type "re.Match", dict := none, data := .fields #[v, p, rawInt lo, rawInt hi, rawInt m.lastindex, .ref s.heap.objs.size] }
 simpa [Heap.size_push] using this
theorem zRZ {w : World} {A : Around} {Rr : Result → Shared → Prop} {s : Shared} {b : Str} {t : Tok} (X : (KK w.params).In s.heap) (hl : b.length ≤ sizeLine) (hn : b.length ≠ 0)
  (h0 : (∀ i, i < b.cps.size → bad (b.cps.getD i 0) = false) → Rr (.ok (.ret .none)) s)
  (h1 : zFl b.cps → ∀ o1 o2, Rr (.ok (.ret (.ref (s.heap.objs.size + 1)))) { s with heap := (s.heap.push o1).push o2 }) :
  codeAny (model prog w) A (.call (.ref 752) ⟨[.str b t], []⟩) Rr s := by
 have hC := X _ _ (by kernel_rfl : (KK w.params).lookup 752 = some (o752 w.params))
 have ck := zOs X b t
 have tg := zMS X b t
 obtain ⟨hh, g, d, tt, os⟩ := s
 dsimp only at hC ck tg
 refine codeAny_of_tree ?_
 show wpAny _ _ (callAny (.ref 752) _) _ _ _
 refine nd_load hC ?_
 show wpAny _ _ (checkBoundCall "re.Pattern.search" ⟨[.ref 49, .str b t], []⟩ >>= fun _ => again (.builtin "re.Pattern.search" ⟨[.ref 49, .str b t], []⟩)) _ _ _
 refine wpAny_bind (ck.at ?_)
 refine wpAny_pure (a := Fin.again (.builtin "re.Pattern.search" ⟨[.ref 49, .str b t], []⟩)) (And.intro (Code.quiet_builtin _ (by decide +kernel)) ?_)
 refine codeAny_builtin zIP ?_
 unfold Builtin.«re.Pattern.search»
 have e1 : min (0 : Int).toNat b.cps.size = 0 := Nat.zero_min _
 have e2 : min (2 ^ 63 - 1 : Int).toNat b.cps.size = b.cps.size := by
  have : b.cps.size ≤ sizeLine := hl
  rw [sizeLine_eq] at this
  have e : ((2 : Int) ^ 63 - 1).toNat = 9223372036854775807 := by rfl
  rw [e]; lia
 rw [e1, e2] at tg
 refine wpAny_bind (tg.at ?_)
 unfold reAnswer
 obtain ⟨s1, s2⟩ := zMR b.cps hn
 by_cases hb : zFl b.cps
 ·refine wpAny_bind (zPy true (s2 hb) ?_)
  exact wpAny_bind (zMT fun o1 o2 => wpAny_pure (h1 hb o1 o2))
 ·have hs : ∀ i, i < b.cps.size → bad (b.cps.getD i 0) = false := fun i hi => by
   cases q : bad (b.cps.getD i 0) with
   | false => rfl
   | true => exact absurd ⟨i, hi, q⟩ hb
  refine wpAny_bind (zPy false (s1 hs) ?_)
  exact wpAny_pure (h0 hs)
noncomputable def repL (c : Nat) (z : List Nat) (l : List Nat) : List Nat := l.flatMap fun k => if k = c then z else [k]
theorem zFA (c : Nat) (z a b : List Nat) : repL c z (a ++ b) = repL c z a ++ repL c z b := List.flatMap_append
theorem zEz (c : Nat) (z : List Nat) : ∀ l : List Nat, c ∉ l → repL c z l = l
 | [], _ => rfl
 | k :: r, h => by
  have h1 : k ≠ c := fun e => h (e ▸ .head _)
  show (if k = c then z else [k]) ++ repL c z r = _
  rw [if_neg h1, zEz c z r fun q => h (.tail _ q)]
  rfl
theorem zOx (c : Nat) (z : List Nat) : repL c z [c] = z := by simp [repL]
theorem zHr (c : Nat) (z : Str) : ∀ parts : List Str, (∀ p ∈ parts, c ∉ p.cps.toList) → repL c z.cps.toList (Str.join ⟨#[c]⟩ parts).cps.toList = (Str.join z parts).cps.toList
 | [], _ => rfl
 | [p], h => zEz c _ _ (h p (List.mem_singleton.mpr rfl))
 | p :: q :: r, h => by
  have ih := zHr c z (q :: r) fun a ha => h a (List.mem_cons_of_mem _ ha)
  show repL c z.cps.toList (p ++ ⟨#[c]⟩ ++ Str.join ⟨#[c]⟩ (q :: r)).cps.toList = (p ++ z ++ Str.join z (q :: r)).cps.toList
  simp only [Str.cps_append, Array.toList_append]
  rw [zFA, zFA, ih, zEz c _ _ (h p (List.mem_cons_self ..))]
  show p.cps.toList ++ repL c z.cps.toList [c] ++ _ = _
  rw [zOx]
theorem zHn (x z : Str) (c : Nat) : (Txt.replace x ⟨#[c]⟩ z).cps.toList = repL c z.cps.toList x.cps.toList := by
 rw [StrLaws.replace_one, ← zHr c z _ (StrLaws.split_free x c), StrLaws.join_split]
theorem zEd (c : Nat) (z : List Nat) (n : Nat) (hz : z.length ≤ n) (h1 : 1 ≤ n) : ∀ l : List Nat, (repL c z l).length ≤ n * l.length
 | [] => Nat.zero_le _
 | k :: r => by
  have ih := zEd c z n hz h1 r
  show ((if k = c then z else [k]) ++ repL c z r).length ≤ n * (r.length + 1)
  rw [List.length_append, Nat.mul_add]
  have : (if k = c then z else [k]).length ≤ n := by
   split
   ·exact hz
   ·exact h1
  lia
theorem zEr {s : Str} {l : List Nat} (h : s.cps.toList = l) : s = tx l := by subst h; cases s; simp [tx]
noncomputable def qm : List Nat := [39, 34, 39, 34, 39]
noncomputable def zAT (l : List Nat) : List Nat := if l ≠ [] ∧ l.all (fun c => !bad c) = true then l else 39 :: (repL 39 qm l ++ [39])
noncomputable def s759 : Stmt := stAt 27 B01
noncomputable def f759 : FnE := ⟨759, 1, ["s"], [], zAE s759, zAB s759, "quote", .ref 758, []⟩
theorem zTi (P : Params) : FnOk (KK P) f759 := FnOk.of (by kernel_rfl) (by kernel_rfl) ⟨_, _, _, _, (by kernel_rfl : (KK P).lookup 759 = some (o759 P)), rfl, rfl, fun _ _ => rfl, rfl, rfl, fun s vs X h => by
 obtain ⟨a, rfl⟩ := len1 h
 exact BindsTo.of_eq (by kernel_rfl)⟩
noncomputable def cmpL : Expr → Expr
 | .Compare l _ _ _ => l
 | _ => default
noncomputable def rPos : Stmt → Pos
 | .Return _ p => p
 | _ => default
noncomputable def fuE : Expr := cmpL (zCt (stAt 1 (zAE s759)))
noncomputable def qrS : Stmt := stAt 2 (zAE s759)
noncomputable def fuF (ns : List (Str × NameKind)) (st : St) (k : Kt) : Prop := zBW (lk "s" st.loc) fun x => onS x fun b => ns = (zAB s759).names ∧ b.length ≠ 0 ∧ ((∀ i, i < b.cps.size → bad (b.cps.getD i 0) = false) → k (.v .none) st) ∧ (zFl b.cps → k (.v (.obj st.led.length)) { st with led := st.led ++ [.gone] })
noncomputable def fuHk : HkE Expr := ⟨(cPos fuE).line, (cPos fuE).col, 20, fuE, fuF⟩
noncomputable def qrF (ns : List (Str × NameKind)) (st : St) (k : Kt) : Prop := zBW (lk "s" st.loc) fun x => onS x fun b => ns = (zAB s759).names ∧ b.length ≤ 1000000 ∧ k (.ret (.str (tx (39 :: (repL 39 qm b.cps.toList ++ [39]))))) st
noncomputable def qrHk : HkE Stmt := ⟨(rPos qrS).line, (rPos qrS).col, 20, qrS, qrF⟩
theorem zUh : ∃ p1 p2 p5, fuE = .Call (.Name "_find_unsafe" p1) [.Name "s" p2] [] p5 := ⟨kp fuE [0], kp fuE [1], kp fuE [], by kernel_rfl⟩
theorem zUP : ∃ p1 p2 p3 p4 p5 p6 p7 p8 p9 p10 n1 n2 n3 n4, qrS = .Return (some (.BinOp (.BinOp (.Constant (.str "'") n1 p1) .Add (.Call (.Attribute (.Name "s" p2) "replace" p3) [.Constant (.str "'") n2 p4, .Constant (.str "'\"'\"'") n3 p5] [] p6) p7) .Add (.Constant (.str "'") n4 p8) p9)) p10 ∧ (p3.endLine == p6.line) = true :=
 let e := sEx qrS
 ⟨kp e [0, 0], kp e [0, 1, 0, 0], kp e [0, 1, 0], kp e [0, 1, 1], kp e [0, 1, 2], kp e [0, 1], kp e [0], kp e [1], kp e [], qrS.pos, kK e [0, 0], kK e [0, 1, 1], kK e [0, 1, 2], kK e [1], by kernel_rfl, by kernel_rfl⟩
noncomputable def g04 : List (Str × Value) := [("_find_unsafe", .ref 752)]
theorem zUf (P : Params) : ∀ p ∈ g04, zDh (KK P) p := zAA ⟨by kernel_rfl, .inl (by kernel_rfl)⟩ zAD
noncomputable def cf4 (P : Params) (kn : Bool) : Cf where
 K := KK P
 globs := g04
 fns := []
 cls := []
 known := kn
theorem cok4 (w : World) (kn : Bool) : CfOk w (cf4 w.params kn) := ⟨zAD, zAD, zAn (zUf _), zAD, zAD, zAD⟩
theorem zPY {M : Model} (P : Params) (h : Heap) (X : (KK P).In h) : ∃ k, (k = Keeper.frame ∨ k = Keeper.machine ∨ k = Keeper.boundFrame) ∧ Looks M h (keeperOf (.ref 752)) k := by
 refine ⟨.machine, .inr (.inl rfl), (Looks.ld (part := none) (X _ _ (by kernel_rfl : (KK P).lookup 752 = some (o752 P)))).andThen ?_⟩
 exact .now
section
variable {w : World} {C : Cf} {F : Fm} {ads : Wd} {s : Shared} {st : St} {E : Value → Shared → Prop}
theorem zOv {h : Heap} (a : Addr) (R : Rep w F ads st h) : Rep w F (wa ads (.one a 0)) { st with led := st.led ++ [.gone] } h := by
 obtain ⟨m, news, lw, X⟩ := R
 have efz : (wa ads (Wd.one a 0)).fz = ads.fz := by rw [Wd.fz_append]; exact List.append_nil _
 refine ⟨m, news, lw, X.fr, fun p hp => X.nw p (by rw [efz] at hp; exact hp), X.loc.mono, ?_, by rw [efz]; exact X.nd, X.ups⟩
 have z := (X.led.mono (more := .one a 0)).append (LedR.cons (One.gone (a := a) (d := 0)) LedR.nil)
 rw [List.append_nil, List.append_nil] at z
 exact z
theorem zSR (hK : C.K = KK w.params) : HxOk w C fuHk := by
 intro F E ads st s k Q ok hd hu h R T
 obtain ⟨b, hb, hns, hn, h0, h1⟩ : ∃ b, lk "s" st.loc = some (.str b) ∧ F.sc.names = (zAB s759).names ∧ b.length ≠ 0 ∧ ((∀ i, i < b.cps.size → bad (b.cps.getD i 0) = false) → k (.v .none) st) ∧ (zFl b.cps → k (.v (.obj st.led.length)) { st with led := st.led ++ [.gone] }) := by
  change fuF _ st k at h
  unfold fuF at h
  obtain ⟨x, hb, h⟩ := zAM h
  obtain ⟨b, rfl, h⟩ := zAh h
  exact ⟨b, hb, h⟩
 obtain ⟨p1, p2, p5, e⟩ := zUh
 show wpAny (model prog w) F.A (eval fuE F.env) (fun v s' => Q (.v v) s') E s
 rw [e]
 have ok4 : FmOk (cf4 w.params C.known) F := zAX (by rw [hK]; rfl) ok fun h => h
 have X : (KK w.params).In s.heap := zGx ok4 R
 refine Call_ (zCX (cok4 w C.known) ok4 (by rw [hns]; kernel_rfl) (by kernel_rfl : lk "_find_unsafe" g04 = some (.ref 752)) (by kernel_rfl) R ?_)
 refine callWith_of (P := fun h => (KK w.params).In h) rfl (fun h X => zPY w.params h X) (zCz (es := [.Name "s" p2]) rfl ?_)
 refine spliced_more (zHw ok4 (by rw [hns]; kernel_rfl) hb (by kernel_rfl) R fun v dv => spliced_none ?_) rfl
 obtain ⟨⟨t, rfl⟩, hl⟩ := dv
 refine ⟨X, wpAny_call (zRZ X hl hn (fun hs => ?_) fun hs o1 o2 => ?_)⟩
 ·exact T (.v .none) _ ⟨[], []⟩ (.v .none) s (h0 hs) (by rw [show (wa ads (⟨[], []⟩ : Wd)) = ads from Wd.append_nil ads]; exact R) (Nx.refl s) rfl
 ·have R2 := zOv (s.heap.objs.size + 1) (zJm o2 (zJm o1 R))
  refine T (.v (.obj st.led.length)) _ _ (.v _) _ (h1 hs) R2 (Nx.mk' s _ s.toks) ⟨(s.heap.objs.size + 1, 0), ?_, rfl⟩
  have := zCu ads (s.heap.objs.size + 1) 0
  rw [← zCN R] at this; exact this
theorem zRj (hK : C.K = KK w.params) : HsOk w C qrHk := by
 intro F E ads st s k Q ok hd hu h R T
 obtain ⟨b, hb, hns, hn, hk⟩ : ∃ b, lk "s" st.loc = some (.str b) ∧ F.sc.names = (zAB s759).names ∧ b.length ≤ 1000000 ∧ k (.ret (.str (tx (39 :: (repL 39 qm b.cps.toList ++ [39]))))) st := by
  change qrF _ st k at h
  unfold qrF at h
  obtain ⟨x, hb, h⟩ := zAM h
  obtain ⟨b, rfl, h⟩ := zAh h
  exact ⟨b, hb, h⟩
 obtain ⟨p1, p2, p3, p4, p5, p6, p7, p8, p9, p10, n1, n2, n3, n4, e, hp⟩ := zUP
 show wpAny (model prog w) F.A (exec qrS F.env) (fun f s' => Q (.fl f) s') E s
 rw [e]
 have R1 : ∀ t, Rep w F ads st ({ s with toks := t } : Shared).heap := fun t => R
 refine wpAny_Return_some (wpAny_BinOp (wpAny_BinOp (wpAny_Constant_str ?_)))
 refine MethodCall_ (zHw (s := { s with toks := s.toks + 1 }) ok (by rw [hns]; kernel_rfl) hb (by kernel_rfl) R fun v dv => ?_) (zEg (by unfold mcOk; rw [hp]; rfl))
 obtain ⟨⟨t, rfl⟩, hl⟩ := dv
 refine GM.replace ?_
 refine zAY (fun a e => nomatch e) rfl (spliced_more (wpAny_Constant_str (spliced_more (wpAny_Constant_str (spliced_none ?_)) rfl)) rfl)
 have e1 : (("'" : Str)) = ⟨#[39]⟩ := by rfl
 have e2 : (("'\"'\"'" : Str)).cps.toList = qm := by rfl
 refine SC.replaceW (by simp) (by simp) (by simp) (by decide +kernel) (by show b.length ≤ 1048576; lia) (by decide +kernel) fun t' kk => ?_
 have hr : Txt.replace b "'" "'\"'\"'" = tx (repL 39 qm b.cps.toList) := by
  have q := zHn b "'\"'\"'" 39
  rw [e2] at q
  rw [e1]
  exact zEr q
 rw [hr]
 have hL : (repL 39 qm b.cps.toList).length ≤ 5000000 := by
  have := zEd 39 qm 5 (by decide) (by decide) b.cps.toList
  have hb' : b.cps.toList.length = b.length := by simp [Str.length]
  lia
 have hl2 : (tx (repL 39 qm b.cps.toList)).length ≤ sizeLine := by rw [zAF, sizeLine_eq]; lia
 have d1 : ∀ t, Den F.B ads (.str "'") (.str "'" t) := fun t => ⟨⟨t, rfl⟩, by decide +kernel⟩
 refine zFm (B := F.B) (ads := ads) (x := .str "'") (y := .str (tx (repL 39 qm b.cps.toList))) (k := fun z => z = .str (tx (39 :: repL 39 qm b.cps.toList))) (d1 _) ⟨⟨t', rfl⟩, hl2⟩ ?_ fun r v t2 hr dv => ?_
 ·show ("'" : Str).length + (tx (repL 39 qm b.cps.toList)).length ≤ sizeLine ∧ SV.str ("'" ++ tx (repL 39 qm b.cps.toList)) = _
  refine ⟨?_, ?_⟩
  ·rw [zAF, sizeLine_eq]
   have : ("'" : Str).length = 1 := by rfl
   lia
  ·have : ("'" : Str) = tx [39] := by rfl
   rw [this, zAP]; rfl
 subst hr
 refine wpAny_Constant_str (zFm (B := F.B) (ads := ads) (x := .str (tx (39 :: repL 39 qm b.cps.toList))) (y := .str "'") (k := fun z => z = .str (tx (39 :: (repL 39 qm b.cps.toList ++ [39])))) dv (d1 _) ?_ fun r v t3 hr dv => ?_)
 ·show (tx (39 :: repL 39 qm b.cps.toList)).length + ("'" : Str).length ≤ sizeLine ∧ SV.str (tx (39 :: repL 39 qm b.cps.toList) ++ "'") = _
  refine ⟨?_, ?_⟩
  ·rw [zAF, sizeLine_eq]
   have : ("'" : Str).length = 1 := by rfl
   rw [List.length_cons]
   lia
  ·have : ("'" : Str) = tx [39] := by rfl
   rw [this, zAP]; rfl
 subst hr
 have ea : (wa ads (⟨[], []⟩ : Wd)) = ads := Wd.append_nil ads
 have dv' : DenR F.B (wa ads (⟨[], []⟩ : Wd)) (.ret (.str (tx (39 :: (repL 39 qm b.cps.toList ++ [39]))))) (.fl (.ret v)) := by rw [ea]; exact dv
 exact T (.ret _) _ ⟨[], []⟩ (.fl (.ret v)) _ hk (by rw [ea]; exact R) (zAf s _) dv'
end
noncomputable def cfQ (P : Params) (kn : Bool) : Cf where
 K := KK P
 globs := []
 fns := []
 cls := []
 known := kn
 hxs := [fuHk]
 hss := [qrHk]
theorem cokQ (w : World) (kn : Bool) : CfOk w (cfQ w.params kn) where
 fns := zAD
 cls := zAD
 globs := fun x v h => nomatch h
 sps := zAD
 hxs := zAA (zSR rfl) <| zAD
 hss := zAA (zRj rfl) <| zAD
theorem zPB (P : Params) (kn : Bool) (b : Str) (k : Kt) : ev (cfQ P kn) 40 (zAB s759).names (.sts (zAE s759)) { loc := [("s", .str b)], led := [] } k =
   ifT (!((b.length : Int) != 0)) (k (.ret (.str "''")) { loc := [("s", .str b)], led := [] })
    (fuE = fuE ∧ (zAB s759).names = (zAB s759).names ∧ b.length ≠ 0 ∧ ((∀ i, i < b.cps.size → bad (b.cps.getD i 0) = false) → k (.ret (.str b)) { loc := [("s", .str b)], led := [] }) ∧
      (zFl b.cps → (qrS = qrS ∧ (zAB s759).names = (zAB s759).names ∧ b.length ≤ 1000000 ∧ k (.ret (.str (tx (39 :: (repL 39 qm b.cps.toList ++ [39]))))) { loc := [("s", .str b)], led := [.gone] }))) := by
  kernel_rfl
theorem zLh {b : Str} (hn : b.length ≠ 0) (h : ∀ i, i < b.cps.size → bad (b.cps.getD i 0) = false) : tx (zAT b.cps.toList) = b := by
 have e : zAT b.cps.toList = b.cps.toList := by
  unfold zAT
  rw [if_pos]
  refine ⟨fun e => hn (by (have h0 : b.cps.size = b.cps.toList.length := (by simp)); rw [e] at h0; exact h0), List.all_eq_true.mpr fun c hc => ?_⟩
  obtain ⟨i, hi, rfl⟩ := List.mem_iff_getElem.mp hc
  have hi' : i < b.cps.size := by simpa using hi
  have := h i hi'
  simp [Array.getD, hi'] at this
  simpa using this
 rw [e]
 exact (zEr rfl).symm
theorem zOJ {b : Str} (h : zFl b.cps) : zAT b.cps.toList = 39 :: (repL 39 qm b.cps.toList ++ [39]) := by
 unfold zAT
 rw [if_neg]
 rintro ⟨_, h2⟩
 obtain ⟨i, hi, hb⟩ := h
 have := List.all_eq_true.mp h2 (b.cps.toList[i]'(by simpa using hi)) (List.getElem_mem _)
 simp [Array.getD, hi] at hb
 simp [hb] at this
noncomputable def s771 : Stmt := stAt 30 B01
noncomputable def f771 : FnE := ⟨771, 1, ["s"], [], zAE s771, zAB s771, "parse_http_list", .ref 770, []⟩
theorem zTg (P : Params) : FnOk (KK P) f771 := FnOk.of (by kernel_rfl) (by kernel_rfl) ⟨_, _, _, _, (by kernel_rfl : (KK P).lookup 771 = some (o771 P)), rfl, rfl, fun _ _ => rfl, rfl, rfl, fun s vs X h => by
 obtain ⟨a, rfl⟩ := len1 h
 exact BindsTo.of_eq (by kernel_rfl)⟩
noncomputable def zAl : Stmt → Expr
 | .For a _ _ _ _ => a
 | _ => default
noncomputable def zAZ : Stmt → List Stmt
 | .For _ _ b _ _ => b
 | _ => []
noncomputable def zDn : List (Str × NameKind) := (zAB s771).names
noncomputable def zHN : Stmt := stAt 3 (zAE s771)
noncomputable abbrev cfH (P : Params) : Cf where
 K := KK P
 globs := []
 fns := []
 cls := []
theorem cokH (w : World) : CfOk w (cfH w.params) := ⟨zAD, zAD, (fun x v h => nomatch h), zAD, zAD, zAD⟩
noncomputable def zDF (f : St → Kt → Prop) (k : Kt) : Kt := fun r st₁ => match r with
 | .next => f st₁ k
 | .brk => k .brk st₁
 | .cont => k .cont st₁
 | .ret x => k (.ret x) st₁
 | _ => False
noncomputable abbrev hst (b part : Str) (e q : Bool) (l : List SO) : St := { loc := [("s", .str b), ("res", .obj 0), ("part", .str part), ("escape", .bool e), ("quote", .bool q)], led := l }
noncomputable abbrev hstc (b part : Str) (e q : Bool) (c : Str) (l : List SO) : St := { loc := [("s", .str b), ("res", .obj 0), ("part", .str part), ("escape", .bool e), ("quote", .bool q), ("cur", .str c)], led := l }
theorem zNY (P : Params) (b : Str) (k : Kt) : ev (cfH P) 40 zDn (.sts (zAE s771)) { loc := [("s", .str b)], led := [] } k =
   forE (zAN zDn (zAl zHN)) (fun st k => ev (cfH P) 35 zDn (.sts (zAZ zHN)) st k) (.str b) (b.cps.toList.map fun c => .str (sgS c)) (.it true (.str b)) 1 0 (b.cps.toList.map fun c => .str (sgS c))
     (hst b "" false false [.list [], .it true (.str b) 0]) (zDF (fun st k => ev (cfH P) 36 zDn (.sts ((zAE s771).drop 4)) st k) k) := by
  kernel_rfl
theorem zNU (P : Params) (b part : Str) (e q : Bool) (c : Str) (j : Nat) (xs : List SV) (k : Kt) :
   zAN zDn (zAl zHN) (.str c) (hst b part e q [.list xs, .it true (.str b) j]) (fun st₁ => ev (cfH P) 35 zDn (.sts (zAZ zHN)) st₁ k) =
    ifT e (part.length + c.length ≤ sizeLine ∧ k .cont (hstc b (part ++ c) false q c [.list xs, .it true (.str b) j]))
    (ifT q (ifT (Fast.sEq c "\\") (k .cont (hstc b part true q c [.list xs, .it true (.str b) j]))
        (ifT (Fast.sEq c "\"") (part.length + c.length ≤ sizeLine ∧ k .cont (hstc b (part ++ c) e false c [.list xs, .it true (.str b) j]))
          (part.length + c.length ≤ sizeLine ∧ k .cont (hstc b (part ++ c) e q c [.list xs, .it true (.str b) j]))))
      (ifT (Fast.sEq c ",") (xs.length ≤ sizeLine ∧ k .cont (hstc b "" e q c [.list (xs ++ [.str part]), .it true (.str b) j]))
        (ifT (Fast.sEq c "\"") (part.length + c.length ≤ sizeLine ∧ k .next (hstc b (part ++ c) e true c [.list xs, .it true (.str b) j]))
          (part.length + c.length ≤ sizeLine ∧ k .next (hstc b (part ++ c) e q c [.list xs, .it true (.str b) j]))))) := by
  kernel_rfl
theorem zQD {n : Nat} {led : List SO} {v : SV} (h : okV n v) : SvT n led v v := by
 cases v <;> first | exact .keep h | exact .same trivial
theorem zIq {n : Nat} {led : List SO} : ∀ {xs : List SV}, (∀ x ∈ xs, okV n x) → SvsT n led xs xs
 | [], _ => .nil
 | x :: r, h => .cons (zQD (h x (.head _))) (zIq fun y hy => h y (.tail _ hy))
theorem zQN {x : Str} {y : SV} {m : List (Str × SV)} : ∀ {l : List (Str × SV)}, lk x l = some y → lk x (l ++ m) = some y
 | [], h => by cases h
 | (a, v) :: r, h => by
  have h' : lk x ((a, v) :: r) = some y := h
  show lk x ((a, v) :: (r ++ m)) = some y
  unfold lk at h' ⊢
  cases q : Fast.sEq x a with
  | true => rw [q] at h'; exact h'
  | false => rw [q] at h'; exact zQN h'
theorem zDE {n : Nat} {loc more : List (Str × SV)} {led led' : List SO} (hl : okF n loc) (h : SosT n led (led.take n) led') : Trim n ⟨loc ++ more, led⟩ ⟨loc, led'⟩ :=
 ⟨fun x y hx => ⟨y, zQN hx, zQD (zFE hl _ (zCs hx))⟩, h⟩
noncomputable def hl : List Nat → Bool → Bool → List Nat → List (List Nat) → List (List Nat) × List Nat
 | [], _, _, p, res => (res, p)
 | c :: r, e, q, p, res =>
  if e then hl r false q (p ++ [c]) res
  else if q then (if c = 92 then hl r true q p res else if c = 34 then hl r e false (p ++ [c]) res else hl r e q (p ++ [c]) res)
  else if c = 44 then hl r e q [] (res ++ [p])
  else if c = 34 then hl r e true (p ++ [c]) res
  else hl r e q (p ++ [c]) res
noncomputable def txL (l : List (List Nat)) : List SV := l.map fun x => .str (tx x)
theorem zRn (n : Nat) (l : List (List Nat)) : ∀ x ∈ txL l, okV n x := fun x hx => by
 obtain ⟨y, _, rfl⟩ := List.mem_map.mp hx
 trivial
theorem zAv {c : Bool} {a b : Prop} (h1 : c = true → a) (h2 : c = false → b) : ifT c a b := by
 cases c with
 | true => exact h1 rfl
 | false => exact h2 rfl
theorem zHl (c d : Nat) : Fast.sEq (sgS c) (sgS d) = decide (c = d) := by
 cases h : Fast.sEq (sgS c) (sgS d) with
 | true =>
  have := zAQ h
  have e : c = d := by
   have := congrArg (fun s : Str => s.cps.toList) this
   simpa [sgS] using this
  exact (decide_eq_true e).symm
 | false =>
  have e : c ≠ d := fun e => by
   subst e
   exact absurd rfl (zAo h)
  exact (decide_eq_false e).symm
section
variable (P : Params) (b : Str)
theorem zNV {part : List Nat} {e q : Bool} {c : Str} {res : List (List Nat)} {j : Nat} : Trim 2 (hstc b (tx part) e q c [.list (txL res), .it true (.str b) j]) (hst b (tx part) e q [.list (txL res), .it true (.str b) j]) :=
 zDE (loc := [("s", .str b), ("res", .obj 0), ("part", .str (tx part)), ("escape", .bool e), ("quote", .bool q)]) (more := [("cur", .str c)]) ⟨trivial, (by show 0 < 2; decide), trivial, trivial, trivial, trivial⟩ (.cons (.list (zIq (zRn 2 res))) (.cons (.it (.same trivial)) .nil))
theorem zNX (hb : b.length ≤ 1000000) (k : Kt) : ∀ (rest : List Nat) (j : Nat) (e q : Bool) (part : List Nat) (res : List (List Nat)), part.length + rest.length ≤ b.length → res.length + rest.length ≤ b.length →
  (∀ e' q', k .next (hst b (tx (hl rest e q part res).2) e' q' [.list (txL (hl rest e q part res).1), .gone])) →
  forE (zAN zDn (zAl zHN)) (fun st k => ev (cfH P) 35 zDn (.sts (zAZ zHN)) st k) (.str b) (b.cps.toList.map fun c => .str (sgS c)) (.it true (.str b)) 1 j (rest.map fun c => .str (sgS c))
   (hst b (tx part) e q [.list (txL res), .it true (.str b) j]) k := by
 intro rest
 induction rest with
 | nil => intro j e q part res h1 h2 hk; exact ⟨rfl, rfl, hk e q⟩
 | cons c r ih =>
  intro j e q part res h1 h2 hk
  rw [List.length_cons] at h1 h2
  refine ⟨rfl, rfl, ?_⟩
  show zAN zDn (zAl zHN) (.str (sgS c)) (hst b (tx part) e q [.list (txL res), .it true (.str b) (j + 1)]) _
  rw [zNU]
  have hs : (tx part).length + (sgS c).length ≤ sizeLine := by
   rw [zAF, zCG, sizeLine_eq]; lia
  have ea : tx part ++ sgS c = tx (part ++ [c]) := by rw [← zGB, zAP]
  have e92 : Fast.sEq (sgS c) "\\" = decide (c = 92) := zHl c 92
  have e34 : Fast.sEq (sgS c) "\"" = decide (c = 34) := zHl c 34
  have e44 : Fast.sEq (sgS c) "," = decide (c = 44) := zHl c 44
  rw [e92, e34, e44, ea]
  have go : ∀ (e' q' : Bool) (p' : List Nat) (res' : List (List Nat)), p'.length + r.length ≤ b.length → res'.length + r.length ≤ b.length → hl (c :: r) e q part res = hl r e' q' p' res' →
    ∃ st₃, Trim 2 (hstc b (tx p') e' q' (sgS c) [.list (txL res'), .it true (.str b) (j + 1)]) st₃ ∧ forE (zAN zDn (zAl zHN)) (fun st k => ev (cfH P) 35 zDn (.sts (zAZ zHN)) st k) (.str b) (b.cps.toList.map fun c => .str (sgS c)) (.it true (.str b)) 1 (j + 1) (r.map fun c => .str (sgS c)) st₃ k :=
   fun e' q' p' res' a1 a2 he => ⟨_, zNV b, ih (j + 1) e' q' p' res' a1 a2 fun e'' q'' => by rw [← he]; exact hk e'' q''⟩
  have lp : (part ++ [c]).length + r.length ≤ b.length := by rw [List.length_append]; simp; lia
  have lr : res.length + r.length ≤ b.length := by lia
  refine zAv (fun h => ⟨hs, ?_⟩) fun h => zAv (fun h3 => zAv (fun h4 => ?_) fun h4 => zAv (fun h5 => ⟨hs, ?_⟩) fun h5 => ⟨hs, ?_⟩) fun h3 => zAv (fun h4 => ⟨?_, ?_⟩) fun h4 => zAv (fun h5 => ⟨hs, ?_⟩) fun h5 => ⟨hs, ?_⟩
  ·exact go false q (part ++ [c]) res lp lr (by subst h; simp [hl])
  ·exact go true q part res (by lia) lr (by subst h h3; simp [hl, of_decide_eq_true h4])
  ·exact go e false (part ++ [c]) res lp lr (by subst h h3; simp [hl, of_decide_eq_true h5])
  ·exact go e q (part ++ [c]) res lp lr (by subst h h3; simp [hl, of_decide_eq_false h4, of_decide_eq_false h5])
  ·show (txL res).length ≤ sizeLine
   rw [show (txL res).length = res.length from List.length_map _, sizeLine_eq]; lia
  ·have := go e q [] (res ++ [part]) (by simp; lia) (by simp; lia) (by subst h h3; simp [hl, of_decide_eq_true h4])
   have ex : txL res ++ [.str (tx part)] = txL (res ++ [part]) := by simp [txL]
   rw [ex]
   exact this
  ·exact go e true (part ++ [c]) res lp lr (by subst h h3; simp [hl, of_decide_eq_true h5])
  ·exact go e q (part ++ [c]) res lp lr (by subst h h3; simp [hl, of_decide_eq_false h4, of_decide_eq_false h5])
end
theorem zJD {w : World} {A : Around} {s : Shared} {a : Str} {t : Tok} (X : (KK w.params).In s.heap) (G : GlobOk s.heap) (hh : A.handled = none) (hd : A.depth + 1 + 40 < recursionLimit) (hu : A.units + 3 + 8 * 40 < cLine) (hl : a.length ≤ 1000000) :
  codeAny (model prog w) A (.call (.ref 759) ⟨[.str a t], []⟩) (fun r s' => ∃ u, r = .ok (.ret (.str (tx (zAT a.cps.toList)) u)) ∧ Keeps s s') s := by
 have h0 : hideAll s.heap (([] : List (Addr × Obj)).map (·.1)) = s.heap := rfl
 have da : Den s.heap ⟨[], []⟩ (.str a) (.str a t) := ⟨⟨t, rfl⟩, by rw [sizeLine_eq]; lia⟩
 refine zIQ (C := cfQ w.params false) (e := f759) (svs := [.str a]) true [] ⟨[], []⟩ [] (zTi _) (zAR (by kernel_rfl)) (fun p hp => nomatch hp) List.nodup_nil rfl .nil (by rw [h0]; exact X) (by rw [h0]; exact G) (fun h => nomatch h) hh (by lia) (.cons (by rw [h0]; exact da) .nil) rfl ?_
 intro F' h₁ tt ok' eA eS eh eB eQ R
 have kn : ∀ b o, s.heap.get? b = some o → F'.h₀.get? b = some o := fun b o q => by rw [eh]; exact q
 have goal : wpAny (model prog w) F'.A (execs (zAE s759) F'.env) (fun f s' => ∃ u, f = .ret (.str (tx (zAT a.cps.toList)) u) ∧ Keeps s s') (fun _ _ => False) { s with heap := h₁, toks := tt } := by
  refine wpAny_mono (zBs (cokQ w false) 40 F' (fun _ _ => False) (.sts (zAE s759)) ⟨[("s", .str a)], []⟩ (fun r st' => r = .ret (.str (tx (zAT a.cps.toList)))) ⟨[], []⟩ { s with heap := h₁, toks := tt } (fun c s' => ∃ u, c = .fl (.ret (.str (tx (zAT a.cps.toList)) u)) ∧ Keeps s s') ok' (by rw [eA]; show A.depth + 1 + 40 < _; lia) (by rw [eA]; show A.units + 3 + 8 * 40 < _; lia) ?_ R ?_) (fun f s' z => ?_) fun _ _ z => z
  ·rw [eS]
   show ev (cfQ w.params false) 40 (zAB s759).names (.sts (zAE s759)) { loc := [("s", .str a)], led := [] } _
   rw [zPB]
   refine zAv (fun q => ?_) fun q => ⟨rfl, rfl, ?_, fun hg => ?_, fun hb => ⟨rfl, rfl, hl, ?_⟩⟩
   ·have hz : a.length = 0 := by
     have : ((a.length : Int)) = 0 := by simpa using q
     lia
    have : a.cps.toList = [] := by
     have h0 : a.cps.size = 0 := hz
     exact Array.toList_eq_nil_iff.mpr (Array.eq_empty_of_size_eq_zero h0)
    rw [this]; rfl
   ·intro hz
    rw [hz] at q; exact absurd q (by decide)
   ·have hz : a.length ≠ 0 := by
     intro hz
     rw [hz] at q; exact absurd q (by decide)
    show SR.ret (.str a) = _
    have := zLh hz hg
    rw [this]
   ·show SR.ret _ = SR.ret _
    rw [zOJ hb]
  ·rintro r st' more c s' rfl R' nx d
   cases c with
   | fl f =>
    cases f with
    | ret v =>
     obtain ⟨⟨u, rfl⟩, _⟩ := d
     refine ⟨u, rfl, s'.heap, s'.toks, ?_, ?_⟩
     ·have g1 : s'.gens = s.gens := nx.quiet eQ
      have g2 : s'.drawn = s.drawn := nx.drawn
      have g3 : s'.os = s.os := nx.os
      obtain ⟨a1, a2, a3, a4, a5⟩ := s'
      dsimp only at g1 g2 g3
      subst g1 g2 g3
      rfl
     ·intro b o q
      obtain ⟨m, news, lw, X'⟩ := R'
      exact X'.fr.keep b o (kn b o q)
    | _ => exact d.elim
   | _ => exact d.elim
  ·obtain ⟨u, e, k⟩ := z
   cases e
   exact ⟨u, rfl, k⟩
 refine wpAny_mono goal (fun f s' z => ?_) fun _ _ z => z.elim
 obtain ⟨u, rfl, k⟩ := z
 exact ⟨u, rfl, k⟩
noncomputable def s751 : Stmt := stAt 24 B01
noncomputable def f751 : FnE := ⟨751, 1, ["split_command"], [], zAE s751, zAB s751, "join", .ref 750, []⟩
theorem zTj (P : Params) : FnOk (KK P) f751 := FnOk.of (by kernel_rfl) (by kernel_rfl) ⟨_, _, _, _, (by kernel_rfl : (KK P).lookup 751 = some (o751 P)), rfl, rfl, fun _ _ => rfl, rfl, rfl, fun s vs X h => by
 obtain ⟨a, rfl⟩ := len1 h
 exact BindsTo.of_eq (by kernel_rfl)⟩
noncomputable def zFC : List (Str × NameKind) → Bool
 | [] => true
 | (_, k) :: r => match k with
  | .cell => false
  | .free => false
  | _ => zFC r
theorem zGL : ∀ {l : List (Str × NameKind)}, zFC l = true → ∀ x ∈ l, x.2 ≠ .cell ∧ x.2 ≠ .free
 | (a, k) :: r, h, x, hx => by
  have rest : zFC r = true → x ∈ r → x.2 ≠ .cell ∧ x.2 ≠ .free := fun h hx => zGL h x hx
  cases k <;> first | exact Bool.noConfusion h | (rcases List.mem_cons.mp hx with rfl | hx <;> first | exact rest h hx | exact ⟨nofun, nofun⟩)
noncomputable def zSI (k : Option NameKind) : Bool := match k with
 | none => false
 | some k => match k with
  | .globalImplicit => true
  | _ => false
theorem zPa {k : Option NameKind} (h : zSI k = true) : k = some .globalImplicit := by
 cases k with
 | none => exact Bool.noConfusion h
 | some k => cases k <;> first | rfl | exact Bool.noConfusion h
noncomputable def zRY (sc : Scope) : Bool := !sc.isCoroutine && (zFC sc.names && (kLoc (zAd ".0" sc.names) && (kLoc (zAd "arg" sc.names) && (zSI (zAd "quote" sc.names) && zID sc.kind))))
theorem zUa : ∃ n p1 p2 p3 p4 p5 p6 p7 p8 p9 p10 sc, zAE s751 = [.Return (some (.Call (.Attribute (.Constant (.str " ") n p1) "join" p2) [.GeneratorExp (.Call (.Name "quote" p3) [.Name "arg" p4] [] p5) [⟨.Name "arg" p6, .Name "split_command" p7, [], 0⟩] sc p8] [] p9)) p10] ∧
  (p2.endLine == p9.line) = true ∧ zRY sc = true :=
 let a := stAt 0 (zAE s751); let e := sEx a
 ⟨kK e [0, 0], kp e [0, 0], kp e [0], kp e [1, 0, 0], kp e [1, 0, 1], kp e [1, 0], kp e [1, 1], kp e [1, 2], kp e [1], kp e [], a.pos, geSc (kid e [1]), by kernel_rfl, by kernel_rfl, by kernel_rfl⟩
theorem zEv {sc : Scope} (h : zRY sc = true) : sc.isCoroutine = false ∧ zFC sc.names = true ∧ kLoc (zAd ".0" sc.names) = true ∧ kLoc (zAd "arg" sc.names) = true ∧ zSI (zAd "quote" sc.names) = true ∧ zID sc.kind = true :=
 ⟨zMm (zAO h).1, (zAO (zAO h).2).1, (zAO (zAO (zAO h).2).2).1, (zAO (zAO (zAO (zAO h).2).2).2).1, zAO (zAO (zAO (zAO (zAO h).2).2).2).2⟩
noncomputable def zBn (x : Str) : Str := tx (zAT x.cps.toList)
section
variable {w : World}
theorem zPZ {A : Around} {E : Value → Shared → Prop} {h₀ : Heap} {s : Shared} {sc : Scope} {Cc : Addr} {code : Value} {env : Env} {m : Str → Option Value} {a : Str} {t : Tok} {p3 p4 p5 : Pos} (X : (KK w.params).In h₀) (G : GlobOk h₀) (kp : ∀ b o, h₀.get? b = some o → s.heap.get? b = some o)
  (hg : env.globals = mainGlobals) (hsc : zRY sc = true) (hn : s.heap.Ns Cc m) (hm : m "arg" = some (.str a t)) (hl : a.length ≤ 1000000) (hh : A.handled = none) (hd : A.depth + 1 + 40 < recursionLimit) (hu : A.units + 3 + 8 * 40 < cLine) :
  wpAny (model prog w) A (eval (.Call (.Name "quote" p3) [.Name "arg" p4] [] p5) (genEnv sc [] Cc code builtinsNs env)) (fun y s₃ => (∃ u, y = .str (zBn a) u) ∧ Keeps s s₃) E s := by
 obtain ⟨c1, c2, c3, c4, c5, c6⟩ := zEv hsc
 have hk : sc.kind = .function := by
  exact zDY c6
 have n1 : sc.names.lookup ("arg" : Str) = some NameKind.local := zFM c4
 have n2 : sc.names.lookup ("quote" : Str) = some NameKind.globalImplicit := by rw [← zAW]; exact zPa c5
 obtain ⟨mg, mb, G1, G2, G3⟩ := G.ns
 have XK : (KK w.params).In s.heap := X.keeps kp
 have hq : mg "quote" = some (.ref 759) := mg_of X G1 (by kernel_rfl)
 refine Call_ (Calls.Name_function_global hk n2 (Calls.loadGlobal_global (by show s.heap.Ns env.globals mg; rw [hg]; exact G1.keeps kp) hq ?_) (by decide))
 refine zCf (K := KK w.params) rfl (spliced_more (wpAny_Name (wpAny_loadName_local hk n1 hn hm (spliced_none ?_)) (by decide)) rfl)
 refine ⟨⟨XK, by kernel_rfl⟩, wpAny_call (codeAny_mono (zJD XK (G.keeps kp) hh hd hu hl) fun r s' z => ?_)⟩
 obtain ⟨u, rfl, k⟩ := z
 exact ⟨⟨u, rfl⟩, k⟩
end
set_option maxHeartbeats 2000000
section
variable {w : World} {F : Fm} {ads : Wd} {st : St}
theorem zRa {h : Heap} {i : Nat} {p : Addr} (R : Rep w F ads st h) (hi : st.led[i]? = some (.tab p)) : ∃ ps, h.get? p = some (tabO ps) ∧ TriplesOk ps.toList ∧ F.h₀.get? p = none ∧
  ∀ h' ps', h'.get? p = some (tabO ps') → TriplesOk ps'.toList → (∀ b, b ≠ p → ∀ o, h.get? b = some o → h'.get? b = some o) → Rep w F ads st h' := by
 obtain ⟨m, news, lw, X⟩ := R
 obtain ⟨pre, ps, post, a, dd, h1, h2, h3, h4⟩ := X.led.at hi
 obtain ⟨rfl, vs, c3, rfl⟩ := h3.inv
 ·have z := X.nw (p, tabO vs) (by rw [h1]; simp)
  refine ⟨vs, z.1, c3, z.2.2, fun h' ps' g1 g4 hs => ?_⟩
  have := zCj X h1 (h4 (.tab p) _ (One.tab g4)) g1 hs
  have e : st.led.set i (.tab p) = st.led := by
   apply List.ext_getElem?
   intro j
   rw [List.getElem?_set]
   split
   ·rename_i q
    subst q
    split
    ·exact hi.symm
    ·rename_i q2
     rw [List.getElem?_eq_none (by lia)] at hi; cases hi
   ·rfl
  have e2 : ({ st with led := st.led.set i (.tab p) } : St) = st := by rw [e]
  rw [e2] at this
  exact this
end
theorem zNv (P : Params) : ∃ vs sl, o750 P = ⟨.type "code", none, .fields vs, sl⟩ ∧ vs.getD 11 .none = .ref 746 ∧ (∃ f t, vs.getD 18 .none = .str f t) ∧ (∃ n t, vs.getD 7 .none = .int n t) ∧ (∃ b, vs.getD 9 .none = .bool b) ∧ (∃ n t, vs.getD 10 .none = .int n t) :=
 ⟨_, _, rfl, rfl, ⟨_, _, rfl⟩, ⟨_, _, rfl⟩, ⟨_, rfl⟩, ⟨_, _, rfl⟩⟩
theorem zGF {P : Params} {h : Heap} {ps : Array Value} (X : (KK P).In h) (ho : h.get? 746 = some (tabO ps)) : h.TableAt 750 746 ps := by
 have hc := X _ _ (by kernel_rfl : (KK P).lookup 750 = some (o750 P))
 exact ⟨⟨_, _, hc, rfl, rfl, rfl⟩, ho⟩
theorem zIJ {M : Model} {A : Around} {E : Value → Shared → Prop} {s : Shared} {env : Env} {c P : Addr} {ps : Array Value} {pos : Pos} {qualname : Str} {scope : Scope} {Q : Value → Shared → Prop} (hc : env.code = .ref c) (hok : s.heap.IsCode c P ps) (htab : s.heap.TableAt c P ps)
  (hQ : ∀ code h' tk ps', Heap.ExtBut P s.heap h' → h'.IsCode c P ps' → h'.get? P = some (tabO ps') → Q code { s with heap := h', toks := tk }) : wpAny M A (genexprCode env pos qualname scope) Q E s := by
 cases hnf : codeAmong pos ps.toList with
 | some cv => exact wpAny_genexprCode_hit hc hok hnf (hQ cv s.heap s.toks ps (Heap.ExtBut.refl _ _) hok htab.2)
 | none => exact wpAny_genexprCodeX hc hok htab hnf fun c' h' tk a b b2 d e f g => hQ (.ref c') h' tk _ a d f.2
theorem zNP {P : Params} {h : Heap} {o : Obj} {ps : Array Value} (X : (KK P).In h) (ho : h.get? 746 = some o) (hd : o.data = .fields ps) (ht : TriplesOk ps.toList) : h.IsCode 750 746 ps := by
 obtain ⟨vs, sl, e, a, ⟨f, t, b⟩, ⟨n, tn, c⟩, ⟨bb, d⟩, ⟨n2, t2, g⟩⟩ := zNv P
 have hc := X _ _ (by kernel_rfl : (KK P).lookup 750 = some (o750 P))
 rw [e] at hc
 exact ⟨_, vs, f, t, n, tn, bb, n2, t2, o, hc, rfl, a, b, c, d, g, ho, hd, ht, by decide⟩
theorem zJE (n : Nat) : passing (fun _ => true) n 0 = List.range n := by
 unfold passing; rw [List.drop_zero]; exact List.filter_eq_self.mpr fun _ _ => rfl
set_option maxHeartbeats 4000000
noncomputable def zSG (svs : List SV) (st : St) (k : Kt) : Prop := on1 svs fun x => onD x fun d => onLs d fun ds => (∃ rest, st.led = .tab 746 :: rest) ∧ ∃ ws : List Str, ds = ws.map .str ∧ (∀ x ∈ ws, x.length ≤ 1000000) ∧ JoinOk " " (ws.map zBn) = true ∧ (Txt.join " " (ws.map zBn)).length ≤ sizeLine ∧ k (.v (.str (Txt.join " " (ws.map zBn)))) st
noncomputable def joinSp : SpE := ⟨751, 1, 120, zSG⟩
theorem zJL {svs : List SV} {st : St} {k : Kt} (h : zSG svs st k) : ∃ (ws : List Str) (rest : List SO), svs = [.dat (.list (ws.map .str))] ∧ st.led = .tab 746 :: rest ∧ (∀ x ∈ ws, x.length ≤ 1000000) ∧ JoinOk " " (ws.map zBn) = true ∧ (Txt.join " " (ws.map zBn)).length ≤ sizeLine ∧ k (.v (.str (Txt.join " " (ws.map zBn)))) st := by
 obtain ⟨x, rfl, h⟩ := zAb h
 obtain ⟨d, rfl, h⟩ := zHB h
 obtain ⟨ds, rfl, ⟨r, hl⟩, ws, rfl, a⟩ := zHv h
 exact ⟨ws, r, rfl, hl, a⟩
theorem zIZ {cells : List (Str × Addr)} : ∀ {l : List (Str × NameKind)} {acc : List (Str × Addr)}, (∀ x ∈ l, x.2 ≠ .free) → clOf cells l acc = acc
 | [], _, _ => rfl
 | (x, k) :: r, acc, h => by
  unfold clOf
  split
  ·exact absurd rfl (h (x, .free) (.head _))
  ·exact zIZ fun y hy => h y (.tail _ hy)
theorem zNg {a b : Array GenState} {gs : GenState} (hb : gs.bare = true) (h : GenOnlyQ a.size (a.push gs) b) : (∀ (i : Nat) (x : GenState), a[i]? = some x → b[i]? = some x) ∧ (∀ (i : Nat) (x : GenState), b[i]? = some x → a[i]? = some x ∨ x.bare = true) := by
 have old : ∀ (i : Nat), i ≠ a.size → (a.push gs)[i]? = a[i]? := fun i hi => by
  rw [Array.getElem?_push, if_neg hi]
 have lt : ∀ (i : Nat) (x : GenState), a[i]? = some x → i ≠ a.size := fun i x e q => by
  subst q
  simp at e
 rcases h with rfl | ⟨⟨_, ho⟩, hg⟩
 ·refine ⟨fun i x e => by rw [old i (lt i x e)]; exact e, fun i x e => ?_⟩
  by_cases q : i = a.size
  ·subst q
   rw [Array.getElem?_push_size] at e
   cases e; exact .inr hb
  ·rw [old i q] at e; exact .inl e
 ·refine ⟨fun i x e => by rw [ho i (lt i x e), old i (lt i x e)]; exact e, fun i x e => ?_⟩
  by_cases q : i = a.size
  ·exact .inr (hg x (q ▸ e))
  ·rw [ho i q, old i q] at e; exact .inl e
theorem zDH (l : List (Str × Tok)) (j : Nat) : (strValues l).toArray[j]? = (l[j]?).map fun p => Value.str p.1 p.2 := by
 simp [strValues]
theorem zLW {h : Heap} {c P : Addr} {ps : Array Value} (hc : h.IsCode c P ps) : ∃ op, h.get? P = some op ∧ op.data = .fields ps ∧ TriplesOk ps.toList := by
 obtain ⟨_, _, _, _, _, _, _, _, _, op, _, _, _, _, _, _, _, e1, e2, e3, _⟩ := hc
 exact ⟨op, e1, e2, e3⟩
theorem zSF {w : World} {C : Cf} (hK : C.K = KK w.params) (hC : C.known = true) : SpOk w C joinSp := by
 obtain ⟨nn, p1, p2, p3, p4, p5, p6, p7, p8, p9, p10, sc, e, hp, hsc⟩ := zUa
 have hsc0 := hsc
 obtain ⟨c1, c2, c3, c4, c5, c6⟩ := zEv hsc
 have hkd : sc.kind = .function := zDY c6
 have hnames := zGL c2
 refine ⟨by rw [hK]; kernel_rfl, ?_⟩
 intro F A ads st s svs vs k Q Rr ok hA hh hd hu h R D hl' T hR
 obtain ⟨ws, rest, rfl, hled, hws, hj, hjl, hk⟩ := zJL h
 have okY : FmOk (cfK w.params) F := zAX hK.symm ok (by first | exact fun _ => rfl | exact fun _ => by assumption | exact fun h => h)
 have hq : F.quiet = false := ok.loud hC
 have d40 : joinSp.d = 120 := rfl
 rw [d40] at hd hu
 refine zFb (C := cfK w.params) (e := f751) (svs := [.dat (.list (ws.map .str))]) (led₁ := [.tab 746]) (led₂ := rest) (zTj _) okY (fun _ => hA hC) hh (by lia) R D hl' hled ⟨trivial, trivial⟩ (fun x hx => by rw [List.mem_singleton.mp hx]; exact trivial) List.nodup_nil fun F' W Wc h₁ t ok' eA eS eB eT eZ eL R0' back bv => ?_
 have R' : Rep w F' W ⟨[("split_command", .dat (.list (ws.map .str)))], [.tab 746]⟩ h₁ := zLl eZ eL R0'
 have eN : F'.sc.names = (zAB s751).names := by rw [eS]; rfl
 have hcode : F'.env.code = .ref 750 := eT.2.2
 have hdep : F'.A.depth = A.depth + 1 := by rw [eA]; rfl
 have huni : F'.A.units = A.units + 3 := by rw [eA]; rfl
 have fin : ∀ s' u, Rep w F' W ⟨[("split_command", .dat (.list (ws.map .str)))], [.tab 746]⟩ s'.heap → Nx F s s' → Rr (.ok (.ret (.str (Txt.join " " (ws.map zBn)) u))) s' := fun s' u R2 nx => by
  have R3 := back [] _ _ _ (by rw [show (wa W (⟨[], []⟩ : Wd)) = W from Wd.append_nil W]; exact R2)
  have e : ({ loc := st.loc, led := [.tab 746] ++ rest } : St) = st := by
   show St.mk st.loc (.tab 746 :: rest) = st
   rw [← hled]
  rw [e] at R3
  exact hR _ _ (T (.v (.str (Txt.join " " (ws.map zBn)))) st ⟨[], []⟩ (.v (.str _ u)) s' hk R3 nx ⟨⟨u, rfl⟩, hjl⟩)
 obtain ⟨ps, hg7, ht7, hn7, upd⟩ := zRa R' (i := 0) rfl
 have hclos : closureFor sc F'.env = pure [] := by
  rw [zDd fun x hx hf => absurd hf (hnames x hx).2, zIZ fun x hx => (hnames x hx).2]
 have R1 : ∀ tt, Rep w F' W ⟨[("split_command", .dat (.list (ws.map .str)))], [.tab 746]⟩ ({ s with heap := h₁, toks := tt } : Shared).heap := fun tt => R'
 show wpAny (model prog w) F'.A (execs (zAE s751) F'.env) _ _ _
 rw [e]
 refine wpAny_execs_cons (wpAny_Return_some ?_)
 refine MethodCall_ (wpAny_Constant_str ?_) (zEg (by unfold mcOk; rw [hp]; rfl))
 refine GM.join ?_
 refine zAY (fun a e => nomatch e) rfl (spliced_more ?_ rfl)
 have lim1 : h₁.NoLimit := by
  obtain ⟨_, _, _, X⟩ := R'
  exact ok'.G.lim.keeps X.fr.keep
 have keep1 : ∀ b o, F'.h₀.get? b = some o → h₁.get? b = some o := fun b o q => by
  obtain ⟨_, _, _, X⟩ := R'
  exact X.fr.keep b o q
 have X0 : (KK w.params).In F'.h₀ := ok'.X
 refine wpAny_GeneratorExp_walksQD ok'.hand c1 hclos (fun y hy => (hnames y hy).1) (zFM c3) (zFM c4) hkd (by rw [hdep]; lia) ?_ (fun x => by rfl)
 refine zHw ok' (by rw [eN]; kernel_rfl) (sv := .dat (.list (ws.map .str))) (by kernel_rfl) (by kernel_rfl) (R1 _) fun u du => ?_
 obtain ⟨a, us, ds, rfl, hlst, hf, hrd, hle, hds⟩ := zBf (v := .dat (.list (ws.map .str))) (k := fun ds => ds = ws.map .str) ok' (R1 (t + 1)) du rfl
 subst hds
 obtain ⟨l, rfl, hlw⟩ := zGz hrd
 have ha : a < h₁.objs.size := by obtain ⟨_, q, _⟩ := hlst; exact Heap.lt_size q
 have h746 : (746 : Nat) < h₁.objs.size := Heap.lt_size hg7
 have ha7 : a ≠ 746 := fun e => by
  obtain ⟨o, q1, q2, n0, q3⟩ := hlst
  rw [e] at q1
  have q1' : h₁.get? 746 = some o := q1
  rw [hg7] at q1'
  cases q1'
  cases q3
 refine wpAny_pyIter_list hlst ⟨lim1.push _, ?_⟩
 have kpush : ∀ (oo : Obj) b o, h₁.get? b = some o → (h₁.push oo).get? b = some o := fun oo b o q => Heap.get?_push_of_some _ q
 refine zIJ hcode (zNP (X0.keeps fun b o q => kpush _ b o (keep1 b o q)) (kpush _ _ _ hg7) rfl ht7) (zGF (X0.keeps fun b o q => kpush _ b o (keep1 b o q)) (kpush _ _ _ hg7)) fun code h₃ tk ps' hx hcd hop2 => ?_
 obtain ⟨op, hop, hpd, htr⟩ := zLW hcd
 have k3 : ∀ b o, b ≠ 746 → h₁.get? b = some o → h₃.get? b = some o := fun b o hb q => hx b o hb (kpush _ b o q)
 have k0 : ∀ b o, F'.h₀.get? b = some o → h₃.get? b = some o := fun b o q => k3 b o (fun e => by rw [e, hn7] at q; cases q) (keep1 b o q)
 obtain ⟨mg, mb, G1, G2, G3⟩ := ok'.G.ns
 have hbm : mg "__builtins__" = some (.ref 4) := mg_of X0 G1 (by kernel_rfl)
 have X3 : (KK w.params).In h₃ := X0.keeps k0
 refine wpAny_builtinsFor (m := mg) (bm := 4) (by show h₃.Ns F'.env.globals mg; rw [ok'.gl]; exact G1.keeps k0) hbm (by decide) (X3 _ _ (by kernel_rfl : (KK w.params).lookup 4 = some (o4 w.params))) rfl rfl rfl ?_
 have hIg : h₃.get? h₁.objs.size = some { cls := .type "list_iterator", data := .fields #[.ref a, .int 0 0] } := hx _ _ (Nat.ne_of_gt h746) (Heap.get?_push_size _ rfl)
 have hag : h₃.IsList a (strValues l).toArray := by obtain ⟨o, q, r⟩ := hlst; exact ⟨o, k3 a o ha7 q, r⟩
 have lim3 : h₃.NoLimit := ok'.G.lim.keeps k0
 have lt0 : ∀ b o, F'.h₀.get? b = some o → b < h₁.objs.size := fun b o q => Heap.lt_size (keep1 b o q)
 have lwl : ws.length = l.length := by rw [← hlw]; simp
 have szl : (strValues l).toArray.size = l.length := by simp [strValues]
 refine ⟨h₁.objs.size, [h₁.objs.size, a], [h₁.objs.size], (strValues l).toArray.size, _, _, fun _ => true, fun i y => ∃ x u, ws[i]? = some x ∧ y = .str (zBn x) u, rfl, fun A' hA' => Walks.list hA' _ _ (Nat.ne_of_lt ha) _, ⟨⟨_, hIg, rfl, rfl⟩, hag⟩, ?_, lim3, ?_, fun href hhref => ⟨?_, ?_⟩, fun a' h₅ tk' gs hb' hlt hsz hk5 Wk hat => ?_⟩
 ·intro b hb
  rcases List.mem_cons.mp hb with rfl | hb
  ·exact Heap.lt_size hIg
  ·rw [List.mem_singleton.mp hb]
   exact Nat.lt_of_lt_of_le ha (Nat.le_of_lt (Heap.lt_size hIg))
 ·intro hm
  obtain ⟨o, q, _⟩ := ok'.G.stat
  have := lt0 _ _ q
  rw [List.mem_singleton.mp hm] at this
  exact Nat.lt_irrefl _ this
 ·intro A' E' i v s₂ m₂ _ _ _ _ _ _ _
  exact wpAny_pure ⟨rfl, s₂.heap, s₂.toks, rfl, fun _ _ q => q⟩
 ·intro A' E' i v s₂ m₂ hA' hD' hU' hP _ hns hm hkp
  rw [zDH, Option.map_eq_some_iff] at hP
  obtain ⟨⟨x, tx'⟩, hli, rfl⟩ := hP
  have hwi : ws[i]? = some x := by rw [← hlw, List.getElem?_map, hli]; rfl
  refine wpAny_mono (zPZ (h₀ := F'.h₀) X0 ok'.G (fun b o q => hkp b (List.mem_range.mpr (Heap.lt_size (k0 b o q))) (fun hm => ?_) o (hhref b o (k0 b o q))) ok'.gl hsc0 hns hm (hws x (List.mem_of_getElem? hwi)) hA' (by lia) (by lia)) (fun y s₃ z => ?_) fun _ _ z => z
  ·have := lt0 _ _ q
   rw [List.mem_singleton.mp hm] at this
   exact Nat.lt_irrefl _ this
  ·obtain ⟨⟨u, e⟩, k⟩ := z
   exact ⟨⟨x, u, hwi, e⟩, k⟩
 ·refine spliced_none ?_
  rw [zJE] at Wk
  rw [szl] at Wk hat
  refine SC.joinGen Wk.in4_2 (fun i s' z => z.1.typeIs) hat ?_ (List.mem_cons_self ..) ?_ (fun s' lt hm hacc => ?_) ?_
  ·intro b hb
   show b < h₅.objs.size
   rw [hsz]
   rcases List.mem_cons.mp hb with rfl | hb
   ·exact Nat.lt_succ_self _
   ·rcases List.mem_cons.mp hb with rfl | hb
    ·exact Nat.lt_succ_of_lt hlt
    ·exact Nat.lt_succ_of_lt (Nat.lt_trans (List.mem_range.mp hb) hlt)
  ·rintro j v ⟨i, _, x, u, _, rfl⟩
   exact ⟨_, _, rfl⟩
  ·have hl : lt.map (·.1) = ws.map zBn := by
    apply List.ext_getElem?
    intro j
    have hsz2 : lt.length = l.length := by
     have := hacc.1
     simpa [strValues] using this
    by_cases hj2 : j < l.length
    ·have hj' : j < lt.length := hsz2 ▸ hj2
     obtain ⟨i, hi, x, u, hwi, hv⟩ := hacc.2 j (.str lt[j].1 lt[j].2) (by rw [zDH, List.getElem?_eq_getElem hj']; rfl)
     have hij : i = j := by
      rw [List.getElem?_range hj2] at hi
      exact (Option.some.inj hi).symm
     subst hij
     injection hv with h1 _
     rw [List.getElem?_map, List.getElem?_map, List.getElem?_eq_getElem hj', hwi]
     simp [h1]
    ·rw [List.getElem?_eq_none (by simp; lia), List.getElem?_eq_none (by simp; lia)]
   rw [hl]
   refine ⟨hj, fun u k => ?_⟩
   have k5 : ∀ b o, b ≠ 746 → h₁.get? b = some o → s'.heap.get? b = some o := fun b o hb q => by
    refine hm.heap b o (fun hmem => ?_) (hk5 b o (k3 b o hb q))
    have hb1 := Heap.lt_size q
    have hb3 := Heap.lt_size (k3 b o hb q)
    rcases List.mem_cons.mp hmem with e | hmem
    ·rw [e] at hb3; exact Nat.lt_irrefl _ hb3
    ·rw [List.mem_singleton.mp hmem] at hb1; exact Nat.lt_irrefl _ hb1
   have h7' : s'.heap.get? 746 = some (tabO ps') := by
    refine hm.heap _ _ (fun hmem => ?_) (hk5 _ _ hop2)
    have hb3 := Heap.lt_size hop
    rcases List.mem_cons.mp hmem with e | hmem
    ·rw [← e] at hb3; exact Nat.lt_irrefl _ hb3
    ·rw [List.mem_singleton.mp hmem] at h746; exact Nat.lt_irrefl _ h746
   have R2 := upd s'.heap ps' h7' htr fun b hb o q => k5 b o hb q
   have gd := zNg hb' hm.gens
   exact fin { s' with toks := k } u R2 ⟨hm.drawn, hm.os, gd.1, gd.2, fun q => by rw [hq] at q; cases q⟩
  ·rw [List.length_range, ← lwl]
   have : (ws.map PyData.str).length ≤ sizeLine := hle
   rwa [List.length_map] at this
set_option maxHeartbeats 1000000
noncomputable def zBG : Expr → Expr
 | .ListComp a _ _ _ => a
 | _ => default
noncomputable def zAp : Expr → Expr
 | .ListComp _ [g] _ _ => g.target
 | _ => default
noncomputable def lcSc : Expr → Scope
 | .ListComp _ _ sc _ => sc
 | _ => default
noncomputable def zIC : Expr := rVal (stAt 5 (zAE s771))
noncomputable def zJQ : List (Str × NameKind) := zBE (lcSc zIC).names
noncomputable def zSN (P : Params) (loc : List (Str × SV)) (ys : List SV) (k : Kt) : Prop :=
 zBZ (zAN zJQ (zAp zIC)) none (fun st k => ev (cfH P) 33 zJQ (.ex (zBG zIC)) st k) (.obj 0) ys (.it true (.obj 0)) 2 3 0 ys ⟨[], [.list ys, .gone, .it true (.obj 0) 0, .list []]⟩
  (fun stE => zAg loc 2 3 stE fun v st₁ => k (.ret v) st₁)
theorem zNW (P : Params) (b part : Str) (e q : Bool) (xs : List SV) (k : Kt) : ev (cfH P) 36 zDn (.sts ((zAE s771).drop 4)) (hst b part e q [.list xs, .gone]) k =
   ifT ((part.length : Int) != 0) (xs.length ≤ sizeLine ∧ zSN P [("s", .str b), ("res", .obj 0), ("part", .str part), ("escape", .bool e), ("quote", .bool q)] (xs ++ [.str part]) k)
     (zSN P [("s", .str b), ("res", .obj 0), ("part", .str part), ("escape", .bool e), ("quote", .bool q)] xs k) := by
  kernel_rfl
theorem zPc (P : Params) (x : Str) (ys zs : List SV) (j : Nat) (k : Kt) (D : St → Prop) : zAN zJQ (zAp zIC) (.str x) ⟨[], [.list ys, .gone, .it true (.obj 0) j, .list zs]⟩ (fun st₁ => zCo none st₁ fun c st₂ => ifT c (ev (cfH P) 33 zJQ (.ex (zBG zIC)) st₂ k) (D st₂)) =
   k (.v (.str (Txt.strip x))) ⟨[("part", .str x)], [.list ys, .gone, .it true (.obj 0) j, .list zs]⟩ := by
  kernel_rfl
theorem zIK : ∀ l : List Str, frzs (l.map .str) = some (l.map .str)
 | [] => rfl
 | a :: r => by
  show (match frz1 (.str a) with | some d => (match frzs (r.map .str) with | some ds => some (d :: ds) | none => none) | none => none) = _
  rw [zIK r]
  rfl
theorem zEq (n : Nat) (led : List SO) (l : List Str) : SvsT n led (l.map .str) (l.map .str) := zIq fun x hx => by
 obtain ⟨y, _, rfl⟩ := List.mem_map.mp hx
 trivial
theorem zIH (P : Params) (loc : List (Str × SV)) (hloc : okF 2 loc) (all : List Str) (hall : all.length ≤ 1000001) (k : Kt) (hk : k (.ret (.dat (.list ((all.map Txt.strip).map .str)))) ⟨loc, [.list (all.map .str), .gone]⟩) : zSN P loc (all.map .str) k := by
 have loop : ∀ (rest : List Str) (j : Nat) (done : List Str), done.length + rest.length ≤ 1000001 → done ++ rest.map Txt.strip = all.map Txt.strip →
   zBZ (zAN zJQ (zAp zIC)) none (fun st k => ev (cfH P) 33 zJQ (.ex (zBG zIC)) st k) (.obj 0) (all.map .str) (.it true (.obj 0)) 2 3 j (rest.map .str) ⟨[], [.list (all.map .str), .gone, .it true (.obj 0) j, .list (done.map .str)]⟩
    (fun stE => zAg loc 2 3 stE fun v st₁ => k (.ret v) st₁) := by
  intro rest
  induction rest with
  | nil =>
   intro j done h1 h2
   rw [List.map_nil, List.append_nil] at h2
   subst h2
   refine ⟨rfl, rfl, ?_⟩
   exact ⟨_, _, ⟨loc, [.list (all.map .str), .gone]⟩, rfl, zIK _, by rw [List.length_map, List.length_map, sizeLine_eq]; lia, by
    have := zDE (n := 2) (loc := loc) (more := []) (led := [.list (all.map .str), .gone, .gone, .list ((all.map Txt.strip).map .str)]) (led' := [.list (all.map .str), .gone]) hloc (.cons (.list (zEq 2 _ all)) (.cons .gone .nil))
    rw [List.append_nil] at this; exact this, hk⟩
  | cons x r ih =>
   intro j done h1 h2
   rw [List.length_cons] at h1
   refine ⟨rfl, rfl, ?_⟩
   show zAN zJQ (zAp zIC) (.str x) ⟨[], [.list (all.map .str), .gone, .it true (.obj 0) (j + 1), .list (done.map .str)]⟩ _
   rw [zPc]
   show (done.map SV.str).length ≤ sizeLine ∧ _
   refine ⟨by rw [List.length_map, sizeLine_eq]; lia, ⟨[], [.list (all.map .str), .gone, .it true (.obj 0) (j + 1), .list ((done ++ [Txt.strip x]).map .str)]⟩, ?_, ?_⟩
   ·have ex : (done.map SV.str) ++ [.str (Txt.strip x)] = (done ++ [Txt.strip x]).map .str := by simp
    rw [← ex]
    exact zDE (n := 4) (loc := []) (more := [("part", .str x)]) trivial (.cons (.list (zEq 4 _ all)) (.cons .gone (.cons (.it (.keep (by decide))) (.cons (.list (by rw [ex]; exact zEq 4 _ _)) .nil))))
   ·refine ih (j + 1) (done ++ [Txt.strip x]) (by rw [List.length_append]; simp; lia) ?_
    rw [List.append_assoc]; exact h2
 have := loop all 0 [] (by simpa using hall) rfl
 exact this
theorem zBC (f : St → Kt → Prop) (k : Kt) (st : St) : zDF f k .next st = f st k := rfl
noncomputable def zBz (l : List Nat) : List (List Nat) := if (hl l false false [] []).2 = [] then (hl l false false [] []).1 else (hl l false false [] []).1 ++ [(hl l false false [] []).2]
noncomputable def zBO (l : List Nat) : List Str := (zBz l).map fun x => Txt.strip (tx x)
theorem zEI : ∀ (l : List Nat) (e q : Bool) (p : List Nat) (res : List (List Nat)), (hl l e q p res).1.length ≤ res.length + l.length
 | [], _, _, _, _ => Nat.le_refl _
 | c :: r, e, q, p, res => by
  unfold hl
  rw [List.length_cons]
  split
  ·have := zEI r false q (p ++ [c]) res; lia
  ·split
   ·split
    ·have := zEI r true q p res; lia
    ·split
     ·have := zEI r e false (p ++ [c]) res; lia
     ·have := zEI r e q (p ++ [c]) res; lia
   ·split
    ·have := zEI r e q [] (res ++ [p]); rw [List.length_append] at this; simp at this; lia
    ·split
     ·have := zEI r e true (p ++ [c]) res; lia
     ·have := zEI r e q (p ++ [c]) res; lia
noncomputable def zSM (svs : List SV) (st : St) (k : Kt) : Prop := on1 svs fun x => onS x fun b => b.length ≤ 1000000 ∧ k (.v (.dat (.list ((zBO b.cps.toList).map .str)))) st
noncomputable def httpSp : SpE := ⟨771, 1, 60, zSM⟩
theorem zJO {svs : List SV} {st : St} {k : Kt} (h : zSM svs st k) : ∃ b, svs = [.str b] ∧ b.length ≤ 1000000 ∧ k (.v (.dat (.list ((zBO b.cps.toList).map .str)))) st := by
 obtain ⟨x, rfl, h⟩ := zAb h
 obtain ⟨b, rfl, h⟩ := zAh h
 exact ⟨_, rfl, h⟩
theorem zSL {w : World} {C : Cf} (hK : C.K = KK w.params) (hC : C.known = true) : SpOk w C httpSp := by
 refine ⟨by rw [hK]; kernel_rfl, ?_⟩
 intro F A ads st s svs vs k Q Rr ok hA hh hd hu h R D hl' T hR
 replace hA : true = true → A.frames = some F.stk := fun _ => hA hC
 obtain ⟨b, rfl, hlen, hk⟩ := zJO h
 have okY : FmOk (cfH w.params) F := zAX hK.symm ok (by first | exact fun _ => rfl | exact fun _ => by assumption | exact fun h => h)
 have d40 : httpSp.d = 60 := rfl
 rw [d40] at hd hu
 refine zBS (e := f771) (n := 40) (led₁ := []) (led₂ := st.led) (zBs (cokH w) 40) (zTg _) okY hA hh (by lia) (by lia) R D hl' rfl trivial (fun x hx => by rw [List.mem_singleton.mp hx]; exact trivial) List.nodup_nil ?_ T hR
 show ev (cfH w.params) 40 zDn (.sts (zAE s771)) { loc := [("s", .str b)], led := [] } _
 rw [zNY]
 have hb : b.length = b.cps.toList.length := by simp [Str.length]
 refine zNX w.params b hlen _ b.cps.toList 0 false false [] [] (by simp [hb]) (by simp [hb]) fun e' q' => ?_
 rw [zBC, zNW]
 have h1 := zEI b.cps.toList false false [] []
 rw [List.length_nil, Nat.zero_add] at h1
 have fin : ∀ (loc : List (Str × SV)) (led : List SO), ∃ x y led', (SR.ret (.dat (.list ((zBO b.cps.toList).map .str))) = .ret x ∨ (SR.ret (.dat (.list ((zBO b.cps.toList).map .str))) = .next ∧ x = .none)) ∧ SvT 0 led x y ∧ SosT 0 led (led.take 0) led' ∧ k (.v y) { loc := st.loc, led := led' ++ st.led } :=
  fun _ _ => ⟨_, _, [], .inl rfl, .same trivial, .nil, hk⟩
 have e1 : ∀ l : List (List Nat), (l.map tx).map SV.str = txL l := fun l => by simp [txL]
 refine zAv (fun h => ⟨?_, ?_⟩) fun h => ?_
 ·show (txL _).length ≤ sizeLine
  rw [show ∀ l, (txL l).length = l.length from fun l => List.length_map _, sizeLine_eq]; lia
 ·have hne : (hl b.cps.toList false false [] []).2 ≠ [] := fun e => by
   rw [e] at h
   exact absurd h (by decide)
  have ex : txL (hl b.cps.toList false false [] []).1 ++ [.str (tx (hl b.cps.toList false false [] []).2)] = ((zBz b.cps.toList).map tx).map .str := by
   rw [e1]; unfold zBz; rw [if_neg hne]; simp [txL]
  rw [ex]
  have hp : (zBz b.cps.toList).length ≤ 1000001 := by unfold zBz; rw [if_neg hne, List.length_append]; simp; lia
  refine zIH w.params [("s", .str b), ("res", .obj 0), ("part", .str (tx (hl b.cps.toList false false [] []).2)), ("escape", .bool e'), ("quote", .bool q')] ⟨trivial, (by show 0 < 2; decide), trivial, trivial, trivial, trivial⟩ _ (by rw [List.length_map]; exact hp) _ ?_
  have : ((zBz b.cps.toList).map tx).map Txt.strip = zBO b.cps.toList := by rw [List.map_map]; rfl
  rw [this]
  exact fin [] _
 ·have he : (hl b.cps.toList false false [] []).2 = [] := by
   have : ((tx (hl b.cps.toList false false [] []).2).length : Int) = 0 := by simpa using h
   rw [zAF] at this
   exact List.eq_nil_of_length_eq_zero (by lia)
  have ex : txL (hl b.cps.toList false false [] []).1 = ((zBz b.cps.toList).map tx).map .str := by
   rw [e1]; unfold zBz; rw [if_pos he]
  rw [ex]
  have hp : (zBz b.cps.toList).length ≤ 1000001 := by unfold zBz; rw [if_pos he]; lia
  refine zIH w.params [("s", .str b), ("res", .obj 0), ("part", .str (tx (hl b.cps.toList false false [] []).2)), ("escape", .bool e'), ("quote", .bool q')] ⟨trivial, (by show 0 < 2; decide), trivial, trivial, trivial, trivial⟩ _ (by rw [List.length_map]; exact hp) _ ?_
  have : ((zBz b.cps.toList).map tx).map Txt.strip = zBO b.cps.toList := by rw [List.map_map]; rfl
  rw [this]
  exact fin [] _
noncomputable def s766 : Stmt := stAt 29 B01
noncomputable def f766 : FnE := ⟨766, 1, ["l"], [], zAE s766, zAB s766, "parse_keqv_list", .ref 765, []⟩
theorem zTh (P : Params) : FnOk (KK P) f766 := FnOk.of (by kernel_rfl) (by kernel_rfl) ⟨_, _, _, _, (by kernel_rfl : (KK P).lookup 766 = some (o766 P)), rfl, rfl, fun _ _ => rfl, rfl, rfl, fun s vs X h => by
 obtain ⟨a, rfl⟩ := len1 h
 exact BindsTo.of_eq (by kernel_rfl)⟩
noncomputable def zCK : List (Str × NameKind) := (zAB s766).names
noncomputable def zDw : Stmt := stAt 1 (zAE s766)
noncomputable def tg766 : List Expr := match stAt 0 (zAZ zDw) with
 | .Assign [.Tuple es _ _] _ _ => es
 | _ => []
noncomputable abbrev cfKv (P : Params) : Cf where
 K := KK P
 globs := []
 fns := [f766]
 cls := []
theorem zUC (w : World) : CfOk w (cfKv w.params) := ⟨zAA ⟨zTh _, by kernel_rfl, zAR (by kernel_rfl)⟩ zAD, zAD, (fun x v h => nomatch h), zAD, zAD, zAD⟩
theorem zNI (P : Params) (ds : List PyData) (c : SO) (k : Kt) : ev (cfKv P) 40 zCK (.sts (zAE s766)) { loc := [("l", .dat (.list ds))], led := [c] } k =
   forE (zAN zCK (zAl zDw)) (fun st k => ev (cfKv P) 37 zCK (.sts (zAZ zDw)) st k) (.dat (.list ds)) (ds.map svOf) (.it true (.dat (.list ds))) 2 0 (ds.map svOf)
     ⟨[("l", .dat (.list ds)), ("parsed", .obj 1)], [c, .dic [], .it true (.dat (.list ds)) 0]⟩ (zDF (fun st k => ev (cfKv P) 38 zCK (.sts ((zAE s766).drop 2)) st k) k) := by
  kernel_rfl
theorem zPX (P : Params) (d : SV) (l : List SO) (k : Kt) : ev (cfKv P) 38 zCK (.sts ((zAE s766).drop 2)) ⟨[("l", d), ("parsed", .obj 1)], l⟩ k = k (.ret (.obj 1)) ⟨[("l", d), ("parsed", .obj 1)], l⟩ := by
 kernel_rfl
theorem zNF (P : Params) (d : SV) (x : Str) (l : List SO) (k : Kt) : zAN zCK (zAl zDw) (.str x) ⟨[("l", d), ("parsed", .obj 1)], l⟩ (fun st₁ => ev (cfKv P) 37 zCK (.sts (zAZ zDw)) st₁ k) =
   (((("=" : Str).length == 0) = false) ∧ (decide ((1 : Int) < -(2 ^ 63 : Int)) || decide ((1 : Int) ≥ 2 ^ 63)) = false ∧ x.length + 2 ≤ sizeLine ∧ (Txt.splitMax x "=" 1).length ≤ sizeLine ∧
     zAN zCK (.Tuple tg766 0 default) (.dat (.list ((Txt.splitMax x "=" 1).map .str))) ⟨[("l", d), ("parsed", .obj 1), ("elt", .str x)], l⟩ fun st₂ => ev (cfKv P) 36 zCK (.sts ((zAZ zDw).drop 1)) st₂ k) := by
  kernel_rfl
theorem zGS : tg766.length = 2 ∧ ∀ (a b : SV) (st : St) (k : St → Prop), zEL zCK tg766 [a, b] st k = k { st with loc := put "v" b (put "k" a st.loc) } := ⟨by kernel_rfl, fun a b st k => by kernel_rfl⟩
theorem zNG (P : Params) (d : SV) (x key v : Str) (c : SO) (fs : List (Str × SV)) (it : SO) (k : Kt) : ev (cfKv P) 36 zCK (.sts ((zAZ zDw).drop 1)) ⟨[("l", d), ("parsed", .obj 1), ("elt", .str x), ("k", .str key), ("v", .str v)], [c, .dic fs, it]⟩ k =
   (-(v.length : Int) ≤ 0 ∧ (0 : Int) < v.length ∧
     ifT (Fast.sEq (Txt.item v 0) "\"") (-(v.length : Int) ≤ -1 ∧ (-1 : Int) < v.length ∧ ifT (Fast.sEq (Txt.item v (-1)) "\"")
         (fs.length ≤ sizeLine ∧ k .next ⟨[("l", d), ("parsed", .obj 1), ("elt", .str x), ("k", .str key), ("v", .str (Txt.slice v (some 1) (some (-1))))], [c, .dic (put key (.str (Txt.slice v (some 1) (some (-1)))) fs), it]⟩)
         (fs.length ≤ sizeLine ∧ k .next ⟨[("l", d), ("parsed", .obj 1), ("elt", .str x), ("k", .str key), ("v", .str v)], [c, .dic (put key (.str v) fs), it]⟩))
       (fs.length ≤ sizeLine ∧ k .next ⟨[("l", d), ("parsed", .obj 1), ("elt", .str x), ("k", .str key), ("v", .str v)], [c, .dic (put key (.str v) fs), it]⟩)) := by
  kernel_rfl
noncomputable def unq (v : Str) : Str := match Fast.sEq (Txt.item v 0) "\"" with
 | true => match Fast.sEq (Txt.item v (-1)) "\"" with
  | true => Txt.slice v (some 1) (some (-1))
  | false => v
 | false => v
inductive KvOk : List Str → List (Str × Str) → Prop
 | nil : KvOk [] []
 | cons {e k v : Str} {es : List Str} {kvs : List (Str × Str)} : Txt.splitMax e "=" 1 = [k, v] → v.length ≠ 0 → e.length ≤ 1000000 → v.length ≤ 1000000 → KvOk es kvs → KvOk (e :: es) ((k, v) :: kvs)
noncomputable def dV (fs : List (Str × Str)) : List (Str × SV) := fs.map fun p => (p.1, .str p.2)
noncomputable def dput : List (Str × Str) → List (Str × Str) → List (Str × Str)
 | [], fs => fs
 | (k, v) :: r, fs => dput r (put k (unq v) fs)
theorem zQI (k v : Str) : ∀ fs : List (Str × Str), put k (.str v) (dV fs) = dV (put k v fs)
 | [] => rfl
 | (y, a) :: r => by
  show put k (.str v) ((y, .str a) :: dV r) = _
  unfold put
  cases Fast.sEq k y with
  | true => rfl
  | false =>
   show (y, SV.str a) :: put k (.str v) (dV r) = (y, SV.str a) :: dV (put k v r)
   rw [zQI k v r]
theorem zMc {α : Type} (k : Str) (v : α) : ∀ fs : List (Str × α), (put k v fs).length ≤ fs.length + 1
 | [] => Nat.le_refl _
 | (y, a) :: r => by
  unfold put
  cases Fast.sEq k y with
  | true => exact Nat.le_succ _
  | false =>
   show (put k v r).length + 1 ≤ r.length + 1 + 1
   have := zMc k v r
   omega
theorem zHO (n : Nat) (led : List SO) : ∀ fs : List (Str × Str), FldT n led (dV fs) (dV fs)
 | [] => .nil
 | (k, v) :: r => .cons (.same trivial) (zHO n led r)
theorem zHf (l : List Str) : (l.map PyData.str).map svOf = l.map .str := by
 rw [List.map_map]; rfl
theorem zNH (P : Params) (ds : List PyData) (i : Int) (k : Kt) : ∀ (elts : List Str) (kvs : List (Str × Str)) (j : Nat) (fs : List (Str × Str)), KvOk elts kvs → fs.length + elts.length ≤ 1000001 →
  k .next ⟨[("l", .dat (.list ds)), ("parsed", .obj 1)], [.cell (some (.int i)), .dic (dV (dput kvs fs)), .gone]⟩ →
  forE (zAN zCK (zAl zDw)) (fun st k => ev (cfKv P) 37 zCK (.sts (zAZ zDw)) st k) (.dat (.list ds)) (ds.map svOf) (.it true (.dat (.list ds))) 2 j (elts.map .str)
   ⟨[("l", .dat (.list ds)), ("parsed", .obj 1)], [.cell (some (.int i)), .dic (dV fs), .it true (.dat (.list ds)) j]⟩ k := by
 intro elts
 induction elts with
 | nil =>
  intro kvs j fs h hl hk
  cases h
  exact ⟨rfl, rfl, hk⟩
 | cons e r ih =>
  intro kvs j fs h hl hk
  cases h with
  | cons hs hv he hv2 hr =>
   rename_i key v kvs
   rw [List.length_cons] at hl
   refine ⟨rfl, rfl, ?_⟩
   show zAN zCK (zAl zDw) (.str e) ⟨[("l", .dat (.list ds)), ("parsed", .obj 1)], [.cell (some (.int i)), .dic (dV fs), .it true (.dat (.list ds)) (j + 1)]⟩ _
   rw [zNF, hs]
   refine ⟨rfl, rfl, by rw [sizeLine_eq]; omega, by rw [sizeLine_eq]; show 2 ≤ 16777216; decide, true, [.str key, .str v], rfl, zGS.1.symm, ?_⟩
   rw [zGS.2]
   show ev (cfKv P) 36 zCK (.sts ((zAZ zDw).drop 1)) ⟨[("l", .dat (.list ds)), ("parsed", .obj 1), ("elt", .str e), ("k", .str key), ("v", .str v)], [.cell (some (.int i)), .dic (dV fs), .it true (.dat (.list ds)) (j + 1)]⟩ _
   rw [zNG]
   have hsz : (dV fs).length ≤ sizeLine := by rw [show (dV fs).length = fs.length from List.length_map _, sizeLine_eq]; omega
   have go : ∀ v', v' = unq v → ∃ st₃, Trim 3 ⟨[("l", .dat (.list ds)), ("parsed", .obj 1), ("elt", .str e), ("k", .str key), ("v", .str v')], [.cell (some (.int i)), .dic (put key (.str v') (dV fs)), .it true (.dat (.list ds)) (j + 1)]⟩ st₃ ∧
     forE (zAN zCK (zAl zDw)) (fun st k => ev (cfKv P) 37 zCK (.sts (zAZ zDw)) st k) (.dat (.list ds)) (ds.map svOf) (.it true (.dat (.list ds))) 2 (j + 1) (r.map .str) st₃ k := by
    rintro v' rfl
    rw [zQI]
    refine ⟨⟨[("l", .dat (.list ds)), ("parsed", .obj 1)], [.cell (some (.int i)), .dic (dV (put key (unq v) fs)), .it true (.dat (.list ds)) (j + 1)]⟩, ?_, ?_⟩
    ·exact zDE (n := 3) (loc := [("l", .dat (.list ds)), ("parsed", .obj 1)]) (more := [("elt", .str e), ("k", .str key), ("v", .str (unq v))]) ⟨trivial, (by show 1 < 3; decide), trivial⟩ (.cons (.cell (.same trivial)) (.cons (.dic (zHO 3 _ _)) (.cons (.it (.same trivial)) .nil)))
    ·refine ih kvs (j + 1) (put key (unq v) fs) hr ?_ hk
     have := zMc key (unq v) fs
     omega
   have hu1 : Fast.sEq (Txt.item v 0) "\"" = false → v = unq v := fun q => by unfold unq; rw [q]
   have hu2 : Fast.sEq (Txt.item v 0) "\"" = true → Fast.sEq (Txt.item v (-1)) "\"" = false → v = unq v := fun q q2 => by unfold unq; rw [q, q2]
   have hu3 : Fast.sEq (Txt.item v 0) "\"" = true → Fast.sEq (Txt.item v (-1)) "\"" = true → Txt.slice v (some 1) (some (-1)) = unq v := fun q q2 => by unfold unq; rw [q, q2]
   refine ⟨by omega, by omega, zAv (fun q => ⟨by omega, by omega, zAv (fun q2 => ⟨hsz, ?_⟩) fun q2 => ⟨hsz, ?_⟩⟩) fun q => ⟨hsz, ?_⟩⟩
   ·exact go _ (hu3 q q2)
   ·exact go _ (hu2 q q2)
   ·exact go _ (hu1 q)
noncomputable def zNJ (svs : List SV) (st : St) (k : Kt) : Prop := on1 svs fun x => onD x fun d => onLs d fun ds => onE1 st.led fun so => zPD (some so) fun c => zBW c fun z => onI z fun i => ∃ elts kvs, ds = elts.map .str ∧ KvOk elts kvs ∧ elts.length ≤ 1000001 ∧ k (.v (.obj 1)) { st with led := [.cell (some (.int i)), .dic (dV (dput kvs [])), .gone] }
noncomputable def keqvSp : SpE := ⟨766, 1, 60, zNJ⟩
theorem zJI {svs : List SV} {st : St} {k : Kt} (h : zNJ svs st k) : ∃ elts kvs i, svs = [.dat (.list (elts.map .str))] ∧ st.led = [.cell (some (.int i))] ∧ KvOk elts kvs ∧ elts.length ≤ 1000001 ∧ k (.v (.obj 1)) { st with led := [.cell (some (.int i)), .dic (dV (dput kvs [])), .gone] } := by
 obtain ⟨x, rfl, h⟩ := zAb h
 obtain ⟨d, rfl, h⟩ := zHB h
 obtain ⟨ds, rfl, h⟩ := zHv h
 obtain ⟨so, hl, h⟩ := zBi h
 obtain ⟨c, e, h⟩ := zCm h
 obtain ⟨z, rfl, h⟩ := zAM h
 obtain ⟨i, rfl, elts, kvs, rfl, a, b, c⟩ := zCJ h
 exact ⟨elts, kvs, _, rfl, hl.trans (congrArg (fun x => [x]) (Option.some.inj e)), a, b, c⟩
theorem zSC {w : World} {C : Cf} (hK : C.K = KK w.params) (hC : C.known = true) : SpOk w C keqvSp := by
 refine ⟨by rw [hK]; kernel_rfl, ?_⟩
 intro F A ads st s svs vs k Q Rr ok hA hh hd hu h R D hl' T hR
 replace hA : true = true → A.frames = some F.stk := fun _ => hA hC
 obtain ⟨elts, kvs, i, rfl, hled, hkv, hlen, hk⟩ := zJI h
 have okY : FmOk (cfKv w.params) F := zAX hK.symm ok (by first | exact fun _ => rfl | exact fun _ => by assumption | exact fun h => h)
 have d40 : keqvSp.d = 60 := rfl
 rw [d40] at hd hu
 refine zCe (e := f766) (n := 40) (zBs (zUC w) 40) (zUC w) okY hA hh (by omega) (by omega) (by omega) R D (by kernel_rfl) ?_ T hR
 rw [hled]
 show ev (cfKv w.params) 40 zCK (.sts (zAE s766)) { loc := [("l", .dat (.list (elts.map .str)))], led := [.cell (some (.int i))] } _
 rw [zNI]
 rw [zHf]
 have := zNH w.params (elts.map .str) i (zDF (fun st k => ev (cfKv w.params) 38 zCK (.sts ((zAE s766).drop 2)) st k) (zOD st k)) elts kvs 0 [] hkv (by simpa using hlen) (by
  rw [zBC, zPX]
  exact hk)
 rw [zHf] at this
 exact this
noncomputable def zBF (sep : List Nat) : List (List Nat) → List Nat
 | [] => []
 | [x] => x
 | x :: y :: r => x ++ (sep ++ zBF sep (y :: r))
theorem zHX (sep : Str) (ts : List Str) : Txt.join sep ts = Str.join sep ts := StrLaws.glued_eq_join sep ts
theorem zHI (sep : List Nat) : ∀ l : List (List Nat), Str.join (tx sep) (l.map tx) = tx (zBF sep l)
 | [] => rfl
 | [x] => rfl
 | x :: y :: r => by
  have ih := zHI sep (y :: r)
  show tx x ++ tx sep ++ Str.join (tx sep) ((y :: r).map tx) = _
  rw [ih, zAP, zAP]
  show tx _ = tx (x ++ (sep ++ zBF sep (y :: r)))
  simp
theorem zFO : ∀ l : List (List Nat), zBF [] l = l.flatten
 | [] => rfl
 | [x] => by simp [zBF]
 | x :: y :: r => by
  show x ++ ([] ++ zBF [] (y :: r)) = _
  rw [zFO (y :: r)]; simp
theorem zBk (sep : List Nat) : ∀ l : List (List Nat), (zBF sep l).length ≤ (l.map List.length).sum + l.length * sep.length
 | [] => Nat.zero_le _
 | [x] => by simp [zBF]
 | x :: y :: r => by
  have ih := zBk sep (y :: r)
  show (x ++ (sep ++ zBF sep (y :: r))).length ≤ _
  simp only [List.length_append, List.map_cons, List.sum_cons, List.length_cons] at ih ⊢
  rw [Nat.add_mul] at ih ⊢
  rw [Nat.add_mul]
  lia
theorem zCZ {sep : Str} {ts : List Str} (h : (ts.map (·.length)).sum + ts.length * sep.length ≤ 16777216) : JoinOk sep ts = true := by
 have key : ∀ (l : List Str) (n : Nat), l.foldl (fun (acc : Nat) (x : Str) => acc + x.length + sep.length) n = n + ((l.map (·.length)).sum + l.length * sep.length) := by
  intro l
  induction l with
  | nil => intro n; simp
  | cons x r ih =>
   intro n
   rw [List.foldl_cons, ih, List.map_cons, List.sum_cons, List.length_cons, Nat.add_mul]
   lia
 unfold JoinOk
 rw [List.foldl_toArray' (h := rfl), key]
 unfold Builtin.Str.tooLong sizeLine
 simp
 lia
theorem zHF (l : List (List Nat)) : ((l.map tx).map (·.length)).sum = (l.map List.length).sum := by
 rw [List.map_map]
 exact congrArg List.sum (List.map_congr_left fun x _ => zAF x)
theorem zII {c : Nat} (h : bad c = false) : ws c = false ∧ c ≠ 39 ∧ c ≠ 34 ∧ c ≠ 92 := by
 have e : ∀ d : Nat, bad d = true → c ≠ d := fun d hd q => by
  rw [q, hd] at h; cases h
 have n1 := e 32 (by decide +kernel)
 have n2 := e 9 (by decide +kernel)
 have n3 := e 13 (by decide +kernel)
 have n4 := e 10 (by decide +kernel)
 refine ⟨?_, e 39 (by decide +kernel), e 34 (by decide +kernel), e 92 (by decide +kernel)⟩
 unfold Mine.ws
 simp [n1, n2, n3, n4]
theorem zNe (tail : List Nat) (q : Bool) (e : Str) (i : Int) : ∀ (x t : List Nat), (∀ c ∈ x, bad c = false) → go (x ++ tail) .a q t e i = go tail .a q (t ++ x) e i
 | [], t, _ => by rw [List.nil_append, List.append_nil]
 | c :: r, t, h => by
  obtain ⟨h1, h2, h3, h4⟩ := zII (h c (.head _))
  rw [List.cons_append]
  conv => lhs; unfold go
  rw [if_neg (by rw [h1]; decide), if_neg h2, if_neg h3, if_neg h4]
  rw [zNe tail q e i r (t ++ [c]) fun d hd => h d (.tail _ hd)]
  rw [List.append_assoc]; rfl
theorem zHL (tail : List Nat) (e : Str) : ∀ (x t : List Nat) (q : Bool) (i : Int), ∃ j, go (repL 39 qm x ++ 39 :: tail) .sq q t e i = go tail .a true (t ++ x) e j
 | [], t, q, i => by
  refine ⟨i, ?_⟩
  show go (39 :: tail) .sq q t e i = _
  conv => lhs; unfold go
  rw [if_pos rfl, List.append_nil]
 | c :: r, t, q, i => by
  by_cases hc : c = 39
  ·subst hc
   have e1 : repL 39 qm (39 :: r) ++ 39 :: tail = 39 :: 34 :: 39 :: 34 :: 39 :: (repL 39 qm r ++ 39 :: tail) := by
    show ((if (39 : Nat) = 39 then qm else [39]) ++ repL 39 qm r) ++ _ = _
    rw [if_pos rfl]; rfl
   rw [e1]
   obtain ⟨j, hj⟩ := zHL tail e r (t ++ [39]) true (i + nl 39)
   refine ⟨j, ?_⟩
   have s1 : go (39 :: 34 :: 39 :: 34 :: 39 :: (repL 39 qm r ++ 39 :: tail)) .sq q t e i = go (repL 39 qm r ++ 39 :: tail) .sq true (t ++ [39]) e (i + nl 39) := by
    simp [go, Mine.ws]
   rw [s1, hj, List.append_assoc]; rfl
  ·have e1 : repL 39 qm (c :: r) ++ 39 :: tail = c :: (repL 39 qm r ++ 39 :: tail) := by
    show ((if c = 39 then qm else [c]) ++ repL 39 qm r) ++ _ = _
    rw [if_neg hc]; rfl
   rw [e1]
   obtain ⟨j, hj⟩ := zHL tail e r (t ++ [c]) true (i + nl c)
   refine ⟨j, ?_⟩
   have s1 : go (c :: (repL 39 qm r ++ 39 :: tail)) .sq q t e i = go (repL 39 qm r ++ 39 :: tail) .sq true (t ++ [c]) e (i + nl c) := by
    conv => lhs; unfold go
    rw [if_neg hc]
   rw [s1, hj, List.append_assoc]; rfl
theorem zNd (tail : List Nat) (e : Str) (x : List Nat) (i : Int) : ∃ j q, (q = true ∨ x ≠ []) ∧ go (zAT x ++ tail) .sp false [] e i = go tail .a q x e j := by
 unfold zAT
 split
 ·rename_i h
  obtain ⟨hne, hall⟩ := h
  cases x with
  | nil => exact absurd rfl hne
  | cons c r =>
   have hg : ∀ d ∈ c :: r, bad d = false := fun d hd => by simpa using List.all_eq_true.mp hall d hd
   obtain ⟨h1, h2, h3, h4⟩ := zII (hg c (.head _))
   refine ⟨i, false, .inr hne, ?_⟩
   rw [List.cons_append]
   conv => lhs; unfold go
   rw [if_neg (by rw [h1]; decide), if_neg h2, if_neg h3, if_neg h4]
   exact zNe tail false e i r [c] fun d hd => hg d (.tail _ hd)
 ·obtain ⟨j, hj⟩ := zHL tail e x [] false i
  refine ⟨j, true, .inl rfl, ?_⟩
  have e1 : (39 :: (repL 39 qm x ++ [39])) ++ tail = 39 :: (repL 39 qm x ++ 39 :: tail) := by simp
  rw [e1]
  have s1 : go (39 :: (repL 39 qm x ++ 39 :: tail)) .sp false [] e i = go (repL 39 qm x ++ 39 :: tail) .sq false [] e i := by
   conv => lhs; unfold go
   rw [if_neg (by decide), if_pos rfl]
  rw [s1, hj, List.nil_append]
noncomputable def zAc : List (List Nat) → List Nat
 | [] => []
 | [x] => zAT x
 | x :: y :: r => zAT x ++ 32 :: zAc (y :: r)
theorem zSo {t : List Nat} (h : t ≠ []) : Fast.sEq (tx t) "" = false := by
 cases q : Fast.sEq (tx t) "" with
 | false => rfl
 | true =>
  have := congrArg Str.length (zAQ q)
  rw [zAF] at this
  exact absurd (List.eq_nil_of_length_eq_zero this) h
theorem zRt (pre : List Nat) (i : Int) (h : pre.length ≤ sizeLine) : LexAll (tx pre) .none i pre.length [] := by
 refine .stop (x := ⟨.none, false, tx [], " ", i, pre.length⟩) trivial trivial ?_ rfl (by rfl)
 exact LexC.off h
theorem zKA : ∀ (ws : List (List Nat)) (pre : List Nat) (i : Int), ws ≠ [] → (pre ++ zAc ws).length ≤ sizeLine → LexAll (tx (pre ++ zAc ws)) (.str " ") i pre.length (ws.map tx)
 | [], _, _, h, _ => absurd rfl h
 | [x], pre, i, _, hl => by
  obtain ⟨j, q, hq, hg⟩ := zNd [] " " x i
  rw [List.append_nil] at hg
  have hg' : go (zAT x) .sp false [] " " i = some ⟨none, q, x, " ", j, []⟩ := by
   rw [hg]; rfl
  have c := LexC.run (pre := pre) hg' hl
  refine .tok (x := ⟨.none, q, tx x, " ", j, ((pre ++ zAT x).length - 0 : Nat)⟩) trivial trivial c ?_ ?_
  ·rcases hq with h | h
   ·exact .inl h
   ·exact .inr (zSo h)
  ·exact zRt (pre ++ zAT x) j hl
 | x :: y :: r, pre, i, _, hl => by
  obtain ⟨j, q, hq, hg⟩ := zNd (32 :: zAc (y :: r)) " " x i
  have hg' : go (zAT x ++ 32 :: zAc (y :: r)) .sp false [] " " i = some ⟨some .sp, q, x, " ", j + nl 32, zAc (y :: r)⟩ := by
   rw [hg]
   show (if ws 32 = true then (if x ≠ [] ∨ q = true then some (⟨some .sp, q, x, " ", j + nl 32, zAc (y :: r)⟩ : LR) else _) else _) = _
   rw [if_pos (by rfl), if_pos hq.symm]
  have hl' : (pre ++ (zAT x ++ 32 :: zAc (y :: r))).length ≤ sizeLine := hl
  have c := LexC.run (pre := pre) hg' hl'
  have e1 : pre ++ (zAT x ++ 32 :: zAc (y :: r)) = (pre ++ zAT x ++ [32]) ++ zAc (y :: r) := by simp
  have e2 : ((pre ++ (zAT x ++ 32 :: zAc (y :: r))).length - (zAc (y :: r)).length : Nat) = (pre ++ zAT x ++ [32]).length := by
   rw [e1, List.length_append]; lia
  have ih := zKA (y :: r) (pre ++ zAT x ++ [32]) (j + nl 32) (fun h => nomatch h) (by rw [← e1]; exact hl')
  rw [← e1] at ih
  refine .tok (x := ⟨.str " ", q, tx x, " ", j + nl 32, ((pre ++ (zAT x ++ 32 :: zAc (y :: r))).length - (zAc (y :: r)).length : Nat)⟩) trivial trivial c ?_ ?_
  ·rcases hq with h | h
   ·exact .inl h
   ·exact .inr (zSo h)
  ·dsimp only
   rw [e2]
   exact ih
theorem zDp : ∀ ws : List (List Nat), Str.join " " (ws.map fun x => tx (zAT x)) = tx (zAc ws)
 | [] => rfl
 | [x] => rfl
 | x :: y :: r => by
  have ih := zDp (y :: r)
  show tx (zAT x) ++ " " ++ Str.join " " ((y :: r).map fun x => tx (zAT x)) = _
  rw [ih]
  have e : (" " : Str) = tx [32] := by rfl
  rw [e, zAP, zAP]
  show tx _ = tx (zAT x ++ 32 :: zAc (y :: r))
  simp
noncomputable def s790 : Stmt := stAt 34 B01
noncomputable def f790 : FnE := ⟨790, 1, ["text"], [], zAE s790, zAB s790, "_law_marked", .ref 789, []⟩
theorem zTd (P : Params) : FnOk (KK P) f790 := FnOk.of (by kernel_rfl) (by kernel_rfl) ⟨_, _, _, _, (by kernel_rfl : (KK P).lookup 790 = some (o790 P)), rfl, rfl, fun _ _ => rfl, rfl, rfl, fun s vs X h => by
 obtain ⟨a, rfl⟩ := len1 h
 exact BindsTo.of_eq (by kernel_rfl)⟩
noncomputable def binL : Expr → Expr
 | .BinOp l _ _ _ => l
 | _ => default
noncomputable def binR : Expr → Expr
 | .BinOp _ _ r _ => r
 | _ => default
noncomputable def arg0 : Expr → Expr
 | .Call _ (a :: _) _ _ => a
 | _ => default
noncomputable def lcIf : Expr → Expr
 | .ListComp _ [⟨_, _, [c], _⟩] _ _ => c
 | _ => default
noncomputable def zND : Expr := arg0 (binR (binL (rVal (stAt 0 (zAE s790)))))
noncomputable def zPo : List (Str × NameKind) := zBE (lcSc zND).names
theorem zMv (P : Params) (b : Str) (k : Kt) : ev (cfH P) 40 (zAB s790).names (.sts (zAE s790)) { loc := [("text", .str b)], led := [] } k =
   zBZ (zAN zPo (zAp zND)) none (fun st k => ev (cfH P) 31 zPo (.ex (zBG zND)) st k) (.str b) (b.cps.toList.map fun c => .str (sgS c)) (.it true (.str b)) 0 1 0 (b.cps.toList.map fun c => .str (sgS c)) ⟨[], [.it true (.str b) 0, .list []]⟩
    (fun stE => zAg [("text", .str b)] 0 1 stE fun v st₁ => zAt st₁ v fun ds => ∃ ts : List Str, ds = ts.map .str ∧ JoinOk "" ts = true ∧ (Txt.join "" ts).length ≤ sizeLine ∧
      (("\"" : Str).length + (Txt.join "" ts).length ≤ sizeLine ∧ (("\"" ++ Txt.join "" ts).length + ("\"" : Str).length ≤ sizeLine ∧ k (.ret (.str ("\"" ++ Txt.join "" ts ++ "\""))) st₁))) := by
  kernel_rfl
theorem zLI (P : Params) (x : Str) (l : List SO) (k : Kt) (D : St → Prop) : zAN zPo (zAp zND) (.str x) ⟨[], l⟩ (fun st₁ => zCo none st₁ fun c st₂ => ifT c (ev (cfH P) 31 zPo (.ex (zBG zND)) st₂ k) (D st₂)) =
   ifT (inB x "\"\\") (("\\" : Str).length + x.length ≤ sizeLine ∧ k (.v (.str ("\\" ++ x))) ⟨[("sign", .str x)], l⟩) (k (.v (.str x)) ⟨[("sign", .str x)], l⟩) := by
  kernel_rfl
noncomputable def escS (l : List Nat) : List Nat := l.flatMap fun c => if c = 34 ∨ c = 92 then [92, c] else [c]
noncomputable def zAm (l : List Nat) : List Nat := 34 :: (escS l ++ [34])
theorem zHR : ∀ l : List Nat, (escS l).length ≤ 2 * l.length
 | [] => Nat.le_refl _
 | c :: r => by
  have ih := zHR r
  show ((if c = 34 ∨ c = 92 then [92, c] else [c]) ++ escS r).length ≤ 2 * (r.length + 1)
  rw [List.length_append]
  have : (if c = 34 ∨ c = 92 then [92, c] else [c]).length ≤ 2 := by
   split
   ·exact Nat.le_refl 2
   ·exact Nat.le_succ 1
  lia
theorem zBh (l : List Nat) : (tx l).cps.toList = l := by simp [tx]
theorem zCb {α β : Type} (l : List β) (f : β → α) : (List.range l.length).filterMap (fun i => (l[i]?).map f) = l.map f := by
 induction l with
 | nil => rfl
 | cons c r ih =>
  rw [List.length_cons, List.range_succ_eq_map, List.filterMap_cons, List.filterMap_map]
  simp only [List.getElem?_cons_zero, Option.map_some, List.map_cons]
  congr 1
noncomputable def zJF (svs : List SV) (st : St) (k : Kt) : Prop := on1 svs fun x => onS x fun b => b.length ≤ 1000000 ∧ k (.v (.str (tx (zAm b.cps.toList)))) st
noncomputable def markedSp : SpE := ⟨790, 1, 60, zJF⟩
theorem zHE {svs : List SV} {st : St} {k : Kt} (h : zJF svs st k) : ∃ b, svs = [.str b] ∧ b.length ≤ 1000000 ∧ k (.v (.str (tx (zAm b.cps.toList)))) st := by
 obtain ⟨x, rfl, h⟩ := zAb h
 obtain ⟨b, rfl, h⟩ := zAh h
 exact ⟨_, rfl, h⟩
noncomputable def escC (c : Nat) : List Nat := if c = 34 ∨ c = 92 then [92, c] else [c]
theorem zEu (l : List Nat) (i : Nat) (x : SV) (h : (l.map fun c => SV.str (sgS c))[i]? = some x) : ∃ c, l[i]? = some c ∧ x = .str (sgS c) := by
 rw [List.getElem?_map, Option.map_eq_some_iff] at h
 obtain ⟨c, h1, h2⟩ := h
 exact ⟨c, h1, h2.symm⟩
noncomputable def glue (y : SV) (st : St) (f : Str → Prop) : Prop := zAt st y fun ds => ∃ ts : List Str, ds = ts.map .str ∧ JoinOk "" ts = true ∧ (Txt.join "" ts).length ≤ sizeLine ∧ f (Txt.join "" ts)
theorem zSO {l : List Nat} {f : Nat → List Nat} {st : St} {g : Str → Prop} (hl : (l.flatMap f).length ≤ 4000000) (h : g (tx (l.flatMap f))) : glue (.dat (.list (l.map fun c => .str (tx (f c))))) st g := by
 have e4 : l.map (fun c => tx (f c)) = (l.map f).map tx := by rw [List.map_map]; rfl
 have ej : Txt.join "" ((l.map f).map tx) = tx (l.flatMap f) := by
  rw [zHX]
  have : ("" : Str) = tx [] := by rfl
  rw [this, zHI, zFO, ← List.flatMap_def]
 have e3 : l.map (fun c => PyData.str (tx (f c))) = ((l.map f).map tx).map .str := by rw [List.map_map, List.map_map]; rfl
 show ∃ ts : List Str, l.map (fun c => PyData.str (tx (f c))) = ts.map .str ∧ JoinOk "" ts = true ∧ (Txt.join "" ts).length ≤ sizeLine ∧ g (Txt.join "" ts)
 refine ⟨(l.map f).map tx, e3, zCZ ?_, ?_, ?_⟩
 ·rw [zHF]
  have : ("" : Str).length = 0 := by rfl
  rw [this, Nat.mul_zero, Nat.add_zero]
  have : ((l.map f).map List.length).sum = (l.flatMap f).length := by
   rw [List.length_flatMap, List.map_map]; rfl
  rw [this]; lia
 ·rw [ej, zAF, sizeLine_eq]; lia
 ·rw [ej]; exact h
theorem zKt {bnd : SV → St → (St → Prop) → Prop} {elt : St → Kt → Prop} {pre : List SO} (loc : List (Str × SV)) (kk : SV → St → Prop) (l : List Nat) (f : Nat → List Nat) (hpre : ∀ n led, pre.length ≤ n → SosT n led pre pre) (hloc : okF pre.length loc) (hlen : l.length ≤ 1000000)
  (step : ∀ c led (K : Kt) (D : St → Prop), K (.v (.str (tx (f c)))) ⟨[("sign", .str (sgS c))], led⟩ → bnd (.str (sgS c)) ⟨[], led⟩ fun st₁ => zCo none st₁ fun c st₂ => ifT c (elt st₂ K) (D st₂))
  (hk : kk (.dat (.list (l.map fun c => .str (tx (f c))))) ⟨loc, pre⟩) :
  zBZ bnd none elt (.str (tx l)) (l.map fun c => .str (sgS c)) (.it true (.str (tx l))) pre.length (pre.length + 1) 0 (l.map fun c => .str (sgS c)) ⟨[], pre ++ [.it true (.str (tx l)) 0, .list []]⟩ (fun stE => zAg loc pre.length (pre.length + 1) stE kk) := by
 refine zBR (pre := pre) (fl := []) (src := .str (tx l)) (all := l.map fun c => .str (sgS c)) (slot := .it true (.str (tx l))) loc kk (fun i => (l[i]?).map fun c => PyData.str (tx (f c))) hpre trivial hloc (fun _ _ _ _ => .it (.same trivial)) (fun a b => ?_) (by rw [List.length_map, sizeLine_eq]; lia) (fun i x zs K Dd hx hK' hD => ?_) ?_
 ·show some ((tx l).cps.toList.map (fun c => SV.str (sgS c)), SO.it true (.str (tx l))) = _
  rw [zBh]
 ·obtain ⟨c, hc, rfl⟩ := zEu l i x hx
  exact step c _ K Dd (hK' (PyData.str (tx (f c))) (by rw [hc]; rfl) [("sign", .str (sgS c))] [])
 ·rw [List.length_map, zCb]; exact hk
theorem zMu {w : World} {C : Cf} (hK : C.K = KK w.params) (hC : C.known = true) : SpOk w C markedSp := by
 refine ⟨by rw [hK]; kernel_rfl, ?_⟩
 intro F A ads st s svs vs k Q Rr ok hA hh hd hu h R D hl' T hR
 replace hA : true = true → A.frames = some F.stk := fun _ => hA hC
 obtain ⟨b, rfl, hlen, hk⟩ := zHE h
 have okY : FmOk (cfH w.params) F := zAX hK.symm ok (by first | exact fun _ => rfl | exact fun _ => by assumption | exact fun h => h)
 have d40 : markedSp.d = 60 := rfl
 rw [d40] at hd hu
 refine zBS (e := f790) (n := 40) (led₁ := []) (led₂ := st.led) (zBs (cokH w) 40) (zTd _) okY hA hh (by lia) (by lia) R D hl' rfl trivial (fun x hx => by rw [List.mem_singleton.mp hx]; exact trivial) List.nodup_nil ?_ T hR
 show ev (cfH w.params) 40 (zAB s790).names (.sts (zAE s790)) { loc := [("text", .str b)], led := [] } _
 rw [zMv]
 obtain ⟨l, rfl⟩ : ∃ l, b = tx l := ⟨b.cps.toList, by cases b; simp [tx]⟩
 rw [zAF] at hlen
 rw [zBh] at hk ⊢
 refine zKt (pre := []) [("text", .str (tx l))] _ l escC (fun _ _ _ => .nil) ⟨trivial, trivial⟩ hlen (fun c led K Dd hs => ?_) ?_
 ·rw [zLI]
  have e : inB (sgS c) "\"\\" = decide (c ∈ [34, 92]) := zDs c "\"\\"
  rw [e]
  unfold escC at hs
  refine zAv (fun q => ⟨?_, ?_⟩) fun q => ?_
  ·rw [zCG, sizeLine_eq]; decide
  ·have q' : c = 34 ∨ c = 92 := by simpa using of_decide_eq_true q
   rw [if_pos q'] at hs
   rw [zDW, ← zGB, ← zGB, zAP]; exact hs
  ·have q' : ¬ (c = 34 ∨ c = 92) := by simpa using of_decide_eq_false q
   rw [if_neg q', zGB] at hs
   exact hs
 ·have hel := zHR l
  have elen : (tx (escS l)).length = (escS l).length := zAF _
  have q1 : ("\"" : Str).length = 1 := by rfl
  refine zSO (l := l) (f := escC) (g := fun t => ("\"" : Str).length + t.length ≤ sizeLine ∧ (("\"" ++ t).length + ("\"" : Str).length ≤ sizeLine ∧ SubK st [] st.led k (.ret (.str ("\"" ++ t ++ "\""))) ⟨[("text", .str (tx l))], []⟩)) (by show (escS l).length ≤ _; lia) ?_
  rw [show l.flatMap escC = escS l from rfl]
  refine ⟨?_, ?_, ?_⟩
  ·rw [elen, q1, sizeLine_eq]; lia
  ·rw [q1]
   have : ("\"" : Str) = tx [34] := by rfl
   rw [this, zAP, zAF, sizeLine_eq]
   simp; lia
  ·have : ("\"" : Str) = tx [34] := by rfl
   rw [this, zAP, zAP]
   have e5 : [34] ++ escS l ++ [34] = zAm l := by simp [zAm]
   rw [e5]
   exact ⟨_, _, [], .inl rfl, .same trivial, .nil, hk⟩
noncomputable def s800 : Stmt := stAt 36 B01
noncomputable def f800 : FnE := ⟨800, 1, ["word"], [], zAE s800, zAB s800, "_law_word", .ref 799, ["safe"]⟩
theorem zTb (P : Params) : FnOk (KK P) f800 := FnOk.of (by kernel_rfl) (by kernel_rfl) ⟨_, _, _, _, (by kernel_rfl : (KK P).lookup 800 = some (o800 P)), rfl, rfl, fun _ _ => rfl, rfl, rfl, fun s vs X h => by
 obtain ⟨a, rfl⟩ := len1 h
 exact BindsTo.of_eq (by kernel_rfl)⟩
noncomputable def zEQ : List (Str × NameKind) := (zAB s800).names
noncomputable def safeS : Str := match aVal (stAt 0 (zAE s800)) with
 | .Constant (.str s) _ _ => s
 | _ => ""
noncomputable def zLQ : Stmt := stAt 1 (zAE s800)
noncomputable def zUF : Nat → Expr → Expr
 | n, .BoolOp _ vs _ => (vs[n]?).getD default
 | _, _ => default
noncomputable def lcA : Expr := cmpL (zUF 1 (zCt zLQ))
noncomputable def cnA : List (Str × NameKind) := zBE (lcSc lcA).names
noncomputable def lcB : Expr := arg0 (binR (binL (rVal (stAt 2 (zAE s800)))))
noncomputable def cnB : List (Str × NameKind) := zBE (lcSc lcB).names
noncomputable def ifK (a b : St → Kt → Prop) (k : Kt) : Kt := fun r st => match r with
 | .b c => ifT c (a st k) (b st k)
 | _ => False
noncomputable abbrev wst (b : Str) : List (Str × SV) := [("safe", .obj 0), ("word", .str b)]
theorem zLg (P : Params) (b : Str) (k : Kt) : ev (cfH P) 60 zEQ (.sts (zAE s800)) ⟨wst b, [.cell none]⟩ k =
   ev (cfH P) 57 zEQ (.tr (zCt zLQ)) ⟨wst b, [.cell (some (.str safeS))]⟩ (ifK (fun st k => ev (cfH P) 57 zEQ (.sts (zAV zLQ)) st k) (fun st k => ev (cfH P) 57 zEQ (.sts []) st k) (zDF (fun st k => ev (cfH P) 58 zEQ (.sts ((zAE s800).drop 2)) st k) k)) := by
  kernel_rfl
theorem zLf (P : Params) (b : Str) (l : List SO) (k : Kt) : ev (cfH P) 57 zEQ (.sts (zAV zLQ)) ⟨wst b, l⟩ k = k (.ret (.str b)) ⟨wst b, l⟩ := by kernel_rfl
theorem zJZ (P : Params) (st : St) (k : Kt) : ev (cfH P) 57 zEQ (.sts []) st k = k .next st := by kernel_rfl
theorem zLd (P : Params) (b : Str) (K : Kt) : ev (cfH P) 57 zEQ (.tr (zCt zLQ)) ⟨wst b, [.cell (some (.str safeS))]⟩ K =
   ifT (!Fast.sEq b "") (zBZ (zAN cnA (zAp lcA)) (some fun st k => ev (cfH P) 52 cnA (.tr (lcIf lcA)) st k) (fun st k => ev (cfH P) 52 cnA (.ex (zBG lcA)) st k) (.str b) (b.cps.toList.map fun c => .str (sgS c)) (.it true (.str b)) 1 2 0 (b.cps.toList.map fun c => .str (sgS c))
      ⟨[("safe", .obj 0)], [.cell (some (.str safeS)), .it true (.str b) 0, .list []]⟩
      (fun stE => zAg (wst b) 1 2 stE fun v st₁ => cmpA 54 ⟨st₁.loc, st₁.led ++ [.list []]⟩ .Eq v (.obj st₁.led.length) fun z => ifT z (K (.b true) ⟨st₁.loc, st₁.led ++ [.list []]⟩) (K (.b false) ⟨st₁.loc, st₁.led ++ [.list []]⟩)))
    (K (.b false) ⟨wst b, [.cell (some (.str safeS))]⟩) := by
  kernel_rfl
theorem zLj (P : Params) (x : Str) (a b : SO) (K : Kt) (D : St → Prop) : zAN cnA (zAp lcA) (.str x) ⟨[("safe", .obj 0)], [.cell (some (.str safeS)), a, b]⟩ (fun st₁ => zCo (some fun st k => ev (cfH P) 52 cnA (.tr (lcIf lcA)) st k) st₁ fun c st₂ => ifT c (ev (cfH P) 52 cnA (.ex (zBG lcA)) st₂ K) (D st₂)) =
   ifT (!inB x safeS) (K (.v (.str x)) ⟨[("safe", .obj 0), ("sign", .str x)], [.cell (some (.str safeS)), a, b]⟩) (D ⟨[("safe", .obj 0), ("sign", .str x)], [.cell (some (.str safeS)), a, b]⟩) := by
  kernel_rfl
theorem zLe (P : Params) (b : Str) (l : List SO) (k : Kt) : ev (cfH P) 58 zEQ (.sts ((zAE s800).drop 2)) ⟨wst b, l⟩ k =
   zBZ (zAN cnB (zAp lcB)) none (fun st k => ev (cfH P) 51 cnB (.ex (zBG lcB)) st k) (.str b) (b.cps.toList.map fun c => .str (sgS c)) (.it true (.str b)) l.length (l.length + 1) 0 (b.cps.toList.map fun c => .str (sgS c)) ⟨[], l ++ [.it true (.str b) 0, .list []]⟩
    (fun stE => zAg (wst b) l.length (l.length + 1) stE fun v st₁ => zAt st₁ v fun ds => ∃ ts : List Str, ds = ts.map .str ∧ JoinOk "" ts = true ∧ (Txt.join "" ts).length ≤ sizeLine ∧
      (("'" : Str).length + (Txt.join "" ts).length ≤ sizeLine ∧ (("'" ++ Txt.join "" ts).length + ("'" : Str).length ≤ sizeLine ∧ k (.ret (.str ("'" ++ Txt.join "" ts ++ "'"))) st₁))) := by
  kernel_rfl
theorem zLi (P : Params) (x : Str) (l : List SO) (K : Kt) (D : St → Prop) : zAN cnB (zAp lcB) (.str x) ⟨[], l⟩ (fun st₁ => zCo none st₁ fun c st₂ => ifT c (ev (cfH P) 51 cnB (.ex (zBG lcB)) st₂ K) (D st₂)) =
   ifT (Fast.sEq x "'") (K (.v (.str "'\"'\"'")) ⟨[("sign", .str x)], l⟩) (K (.v (.str x)) ⟨[("sign", .str x)], l⟩) := by
  kernel_rfl
theorem zOp (c : Nat) : inB (sgS c) safeS = !bad c := by
 rw [zDs]
 by_cases h : c < 128
 ·have key : ∀ n, n < 128 → decide (n ∈ safeS.cps.toList) = !bad n := by
   have : (List.range 128).all (fun n => decide (n ∈ safeS.cps.toList) == !bad n) = true := by decide +kernel
   intro n hn
   have := List.all_eq_true.mp this n (List.mem_range.mpr hn)
   exact eq_of_beq this
  exact key c h
 ·have h1 : c ∉ safeS.cps.toList := by
   have : safeS.cps.toList.all (fun n => decide (n < 128)) = true := by decide +kernel
   intro hc
   exact h (of_decide_eq_true (List.all_eq_true.mp this c hc))
  rw [decide_eq_false h1]
  have hb : bad c = true := by
   unfold bad
   have w1 : Sre.isWord c = false := by
    unfold Sre.isWord Sre.isDigit
    simp
    lia
   rw [w1]
   by_cases h2 : c < 256
   ·have : ∀ n, 128 ≤ n → n < 256 → (chQ.getD (n / 32) 0).testBit (n % 32) = false := by
     have : (List.range 256).all (fun n => decide (n < 128) || !(chQ.getD (n / 32) 0).testBit (n % 32)) = true := by decide +kernel
     intro n h3 h4
     have := List.all_eq_true.mp this n (List.mem_range.mpr h4)
     rw [decide_eq_false (by lia), Bool.false_or] at this
     simpa using this
    rw [this c (by lia) h2]; simp
   ·rw [decide_eq_false h2]; rfl
  rw [hb]; rfl
noncomputable def zSm (svs : List SV) (st : St) (k : Kt) : Prop := on1 svs fun x => onS x fun b => b.length ≤ 1000000 ∧ PyData.strOk b = true ∧ k (.v (.str (zBn b))) st
noncomputable def wordSp : SpE := ⟨800, 1, 80, zSm⟩
theorem zIg {svs : List SV} {st : St} {k : Kt} (h : zSm svs st k) : ∃ b, svs = [.str b] ∧ b.length ≤ 1000000 ∧ PyData.strOk b = true ∧ k (.v (.str (zBn b))) st := by
 obtain ⟨x, rfl, h⟩ := zAb h
 obtain ⟨b, rfl, h⟩ := zAh h
 exact ⟨_, rfl, h⟩
theorem zFt {α β : Type} (l : List α) (f : α → Option β) : (List.range l.length).filterMap (fun i => (l[i]?).bind f) = l.filterMap f := by
 induction l with
 | nil => rfl
 | cons c r ih =>
  rw [List.length_cons, List.range_succ_eq_map, List.filterMap_cons, List.filterMap_map]
  have e : List.filterMap ((fun i => ((c :: r)[i]?).bind f) ∘ Nat.succ) (List.range r.length) = r.filterMap f := by
   rw [← ih]; rfl
  rw [e]
  show (match f c with | none => _ | some b => _) = _
  rw [List.filterMap_cons]
  rfl
noncomputable def qC (c : Nat) : List Nat := if c = 39 then qm else [c]
theorem zGA (P : Params) (b : Str) (hlen : b.length ≤ 1000000) (l : List SO) (hl : ∀ n led, l.length ≤ n → SosT n led l l) (h0 : 0 < l.length) (k : Kt)
  (hk : k (.ret (.str (tx (39 :: (repL 39 qm b.cps.toList ++ [39]))))) ⟨wst b, l⟩) : ev (cfH P) 58 zEQ (.sts ((zAE s800).drop 2)) ⟨wst b, l⟩ k := by
 rw [zLe]
 have hb : b.length = b.cps.toList.length := by simp [Str.length]
 refine zBR (pre := l) (fl := []) (slot := .it true (.str b)) (wst b) _ (fun i => (b.cps.toList[i]?).map fun c => PyData.str (tx (qC c))) hl trivial ⟨h0, trivial, trivial⟩ (fun _ _ _ _ => .it (.same trivial)) (fun a c => rfl) (by rw [List.length_map, sizeLine_eq]; lia) (fun i x zs K Dd hx hK' hD => ?_) ?_
 ·obtain ⟨c, hc, rfl⟩ := zEu _ i x hx
  rw [zLi]
  have e : Fast.sEq (sgS c) "'" = decide (c = 39) := zHl c 39
  rw [e]
  have hs := hK' (PyData.str (tx (qC c))) (by rw [hc]; rfl) [("sign", .str (sgS c))] []
  have hs2 : K (.v (.str (tx (qC c)))) ⟨[("sign", .str (sgS c))], l ++ [.it true (.str b) (i + 1), .list zs]⟩ := hs
  refine zAv (fun q => ?_) fun q => ?_
  ·have e2 : tx (qC c) = "'\"'\"'" := by
    unfold qC; rw [if_pos (of_decide_eq_true q)]; rfl
   rw [e2] at hs2; exact hs2
  ·have e2 : tx (qC c) = sgS c := by
    unfold qC; rw [if_neg (of_decide_eq_false q), zGB]
   rw [e2] at hs2; exact hs2
 ·rw [List.length_map, zCb]
  have e3 : b.cps.toList.map (fun c => PyData.str (tx (qC c))) = ((b.cps.toList.map qC).map tx).map .str := by rw [List.map_map, List.map_map]; rfl
  have ej : Txt.join "" ((b.cps.toList.map qC).map tx) = tx (repL 39 qm b.cps.toList) := by
   rw [zHX]
   have : ("" : Str) = tx [] := by rfl
   rw [this, zHI, zFO]
   show tx (b.cps.toList.map qC).flatten = tx (b.cps.toList.flatMap qC)
   rw [List.flatMap_def]
  have hel := zEd 39 qm 5 (by decide) (by decide) b.cps.toList
  have elen : (tx (repL 39 qm b.cps.toList)).length = (repL 39 qm b.cps.toList).length := zAF _
  have q1 : ("'" : Str).length = 1 := by rfl
  show zAt _ (.dat (.list (b.cps.toList.map fun c => PyData.str (tx (qC c))))) _
  rw [e3]
  refine ⟨(b.cps.toList.map qC).map tx, rfl, zCZ ?_, ?_, ?_, ?_, ?_⟩
  ·rw [zHF]
   have : ("" : Str).length = 0 := by rfl
   rw [this, Nat.mul_zero, Nat.add_zero]
   have : ((b.cps.toList.map qC).map List.length).sum = (repL 39 qm b.cps.toList).length := by
    show _ = (b.cps.toList.flatMap qC).length
    rw [List.length_flatMap, List.map_map]; rfl
   rw [this]; lia
  ·rw [ej, elen, sizeLine_eq]; lia
  ·rw [ej, elen, q1, sizeLine_eq]; lia
  ·rw [ej, q1]
   have : ("'" : Str) = tx [39] := by rfl
   rw [this, zAP, zAF, sizeLine_eq]
   simp; lia
  ·rw [ej]
   have : ("'" : Str) = tx [39] := by rfl
   rw [this, zAP, zAP]
   have e5 : [39] ++ repL 39 qm b.cps.toList ++ [39] = 39 :: (repL 39 qm b.cps.toList ++ [39]) := by simp
   rw [e5]
   exact hk
theorem zPb (a b : St → Kt → Prop) (k : Kt) (st : St) : ifK a b k (.b true) st = a st k := rfl
theorem zIG (a b : St → Kt → Prop) (k : Kt) (st : St) : ifK a b k (.b false) st = b st k := rfl
theorem zNx (n : Nat) (st : St) (d : PyData) (y : SV) (k : Bool → Prop) : cmpA n st .Eq (.dat d) y k = eqD n st (.dat d) y k := rfl
theorem zNo {n : Nat} {st : St} {x y : SV} {d e : PyData} {k : Bool → Prop} (h1 : frzD 4 st.led x = some d) (h2 : frzD 4 st.led y = some e) (hn : 8 ≤ n) (c1 : d.canLay0 = true) (c2 : e.canLay0 = true) (dp : min d.depth e.depth ≤ 60) (hk : k (d.eqv e)) : eqD n st x y k := by
 unfold eqD
 rw [h1, h2]
 exact ⟨hn, c1, c2, dp, hk⟩
theorem zSW (ds : List PyData) : (PyData.list ds).eqv (.list []) = ds.isEmpty := by cases ds <;> rfl
theorem zQl {w : World} {C : Cf} (hK : C.K = KK w.params) (hC : C.known = true) : SpOk w C wordSp := by
 refine ⟨by rw [hK]; kernel_rfl, ?_⟩
 intro F A ads st s svs vs k Q Rr ok hA hh hd hu h R D hl' T hR
 replace hA : true = true → A.frames = some F.stk := fun _ => hA hC
 obtain ⟨b, rfl, hlen, hbo, hk⟩ := zIg h
 have okY : FmOk (cfH w.params) F := zAX hK.symm ok (by first | exact fun _ => rfl | exact fun _ => by assumption | exact fun h => h)
 have d40 : wordSp.d = 80 := rfl
 rw [d40] at hd hu
 refine zBS (e := f800) (n := 60) (led₁ := []) (led₂ := st.led) (zBs (cokH w) 60) (zTb _) okY hA hh (by lia) (by lia) R D hl' rfl trivial (fun x hx => by rw [List.mem_singleton.mp hx]; exact trivial) (by decide) ?_ T hR
 have hb : b.length = b.cps.toList.length := by simp [Str.length]
 have fin : ∀ (x : Str) (st' : St), x = zBn b → ∃ x' y led', (SR.ret (.str x) = .ret x' ∨ (SR.ret (.str x) = .next ∧ x' = .none)) ∧ SvT 0 st'.led x' y ∧ SosT 0 st'.led (st'.led.take 0) led' ∧ k (.v y) { loc := st.loc, led := led' ++ st.led } := by
  rintro x st' rfl
  exact ⟨_, _, [], .inl rfl, .same trivial, .nil, hk⟩
 show ev (cfH w.params) 60 zEQ (.sts (zAE s800)) ⟨wst b, [.cell none]⟩ _
 rw [zLg, zLd]
 have bl : (b.cps.toList = [] ↔ Fast.sEq b "" = true) := by
  constructor
  ·intro h
   have : b = "" := by
    have e := zEr (s := b) rfl
    rw [e, h]; rfl
   rw [this]; rfl
  ·intro h
   rw [zAQ h]; rfl
 refine zAv (fun q => ?_) fun q => ?_
 ·have hne : b.cps.toList ≠ [] := fun e => by
   rw [bl.mp e] at q; cases q
  refine zBR (pre := [.cell (some (.str safeS))]) (fl := [("safe", .obj 0)]) (slot := .it true (.str b)) (wst b) _ (fun i => (b.cps.toList[i]?).bind fun c => if bad c = true then some (PyData.str (sgS c)) else none) (fun _ _ _ => .cons (.cell (.same trivial)) .nil) ⟨Nat.zero_lt_one, trivial⟩ ⟨Nat.zero_lt_one, trivial, trivial⟩ (fun _ _ _ _ => .it (.same trivial)) (fun a c => rfl) (by rw [List.length_map, sizeLine_eq]; lia) (fun i x zs K Dd hx hK' hD => ?_) ?_
  ·obtain ⟨c, hc, rfl⟩ := zEu _ i x hx
   show zAN cnA (zAp lcA) (.str (sgS c)) ⟨[("safe", .obj 0)], [.cell (some (.str safeS)), .it true (.str b) (i + 1), .list zs]⟩ _
   rw [zLj, zOp]
   refine zAv (fun q2 => ?_) fun q2 => ?_
   ·have hbad : bad c = true := by simpa using q2
    exact hK' (PyData.str (sgS c)) (by rw [hc]; show (if bad c = true then _ else _) = _; rw [if_pos hbad]) [("sign", .str (sgS c))] []
   ·have hbad : bad c = false := by simpa using q2
    exact hD (by rw [hc]; show (if bad c = true then _ else _) = _; rw [if_neg (by rw [hbad]; decide)]) [("sign", .str (sgS c))] []
  ·rw [List.length_map, zFt]
   generalize hds : (b.cps.toList.filterMap fun c => if bad c = true then some (PyData.str (sgS c)) else none) = ds
   have hcs : ∀ c ∈ b.cps.toList, c < 0x110000 := fun c hc => by
    unfold PyData.strOk at hbo
    rw [← Array.all_toList] at hbo
    exact of_decide_eq_true (List.all_eq_true.mp hbo c hc)
   have hlist : ∀ d ∈ ds, ∃ c, d = .str (sgS c) ∧ c < 0x110000 := fun d hd => by
    rw [← hds] at hd
    obtain ⟨c, hcm, hc⟩ := List.mem_filterMap.mp hd
    split at hc
    ·cases hc; exact ⟨c, rfl, hcs c hcm⟩
    ·cases hc
   have cla : ∀ l : List PyData, (∀ d ∈ l, ∃ c, d = .str (sgS c) ∧ c < 0x110000) → PyData.canLayAll0 l = true := fun l => by
    induction l with
    | nil => intro _; rfl
    | cons d r ih =>
     intro h
     obtain ⟨c, rfl, hc⟩ := h d (.head _)
     simp only [PyData.canLayAll0, Bool.and_eq_true]
     exact ⟨by simp [PyData.canLay0, PyData.strOk, sgS, hc], ih fun x hx => h x (.tail _ hx)⟩
   have cl : PyData.canLay0 (.list ds) = true := cla ds hlist
   have dp : min (PyData.depth (.list ds)) (PyData.depth (.list [])) ≤ 60 := by
    refine Nat.le_trans (Nat.min_le_right _ _) ?_
    decide
   rw [zNx]
   refine zNo (d := .list ds) (e := .list []) rfl rfl (by decide) cl (by rfl) dp ?_
   rw [zSW]
   have hgood : ds.isEmpty = true ↔ b.cps.toList.all (fun c => !bad c) = true := by
    rw [← hds, List.isEmpty_iff, List.filterMap_eq_nil_iff, List.all_eq_true]
    constructor
    ·intro h c hc
     have := h c hc
     cases hb2 : bad c with
     | true => rw [hb2] at this; cases this
     | false => rfl
    ·intro h c hc
     have := h c hc
     cases hb2 : bad c with
     | true => rw [hb2] at this; cases this
     | false => rfl
   refine zAv (fun q3 => ?_) fun q3 => ?_
   ·rw [zPb]
    show ev (cfH w.params) 57 zEQ (.sts (zAV zLQ)) ⟨wst b, [.cell (some (.str safeS)), .list []]⟩ _
    rw [zLf]
    refine fin b _ ?_
    unfold zBn zAT
    rw [if_pos ⟨hne, hgood.mp q3⟩]
    exact zEr rfl
   ·rw [zIG, zJZ, zBC]
    refine zGA w.params b hlen [.cell (some (.str safeS)), .list []] (fun _ _ _ => .cons (.cell (.same trivial)) (.cons (.list .nil) .nil)) (by show 0 < 2; decide) _ ?_
    refine fin _ _ ?_
    unfold zBn zAT
    rw [if_neg fun h => ?_]
    rw [hgood.mpr h.2] at q3; cases q3
 ·have he : b.cps.toList = [] := bl.mpr (by simpa using q)
  rw [zIG, zJZ, zBC]
  refine zGA w.params b hlen [.cell (some (.str safeS))] (fun _ _ _ => .cons (.cell (.same trivial)) .nil) (by show 0 < 1; decide) _ ?_
  refine fin _ _ ?_
  unfold zBn zAT
  rw [if_neg fun h => h.1 he]
noncomputable def s778 : Stmt := stAt 32 B01
noncomputable def f778 : FnE := ⟨778, 1, ["more"], [], zAE s778, zAB s778, "_law_text", .ref 777, []⟩
theorem zTf (P : Params) : FnOk (KK P) f778 := FnOk.of (by kernel_rfl) (by kernel_rfl) ⟨_, _, _, _, (by kernel_rfl : (KK P).lookup 778 = some (o778 P)), rfl, rfl, fun _ _ => rfl, rfl, rfl, fun s vs X h => by
 obtain ⟨a, rfl⟩ := len1 h
 exact BindsTo.of_eq (by kernel_rfl)⟩
noncomputable def zDm : List (Str × NameKind) := (zAB s778).names
noncomputable abbrev cfE (P : Params) : Cf where
 K := KK P
 globs := [("range", .type "range")]
 fns := []
 cls := []
theorem zLw (P : Params) (m : Int) (k : Kt) : ev (cfE P) 60 zDm (.sts (zAE s778)) ⟨[("more", .int m)], []⟩ k =
   ((3 : Int) ≠ 0 ∧ ((3 : Int) ≠ 0 ∧ (3 : Int).natAbs < 1073741824) ∧ ev (cfE P) 57 zDm (.sts ((zAE s778).drop 3)) ⟨[("more", .int (m.fdiv 3)), ("size", .int (m.fmod 3)), ("text", .str "")], []⟩ k) := by
  kernel_rfl
noncomputable def zJP : Stmt := stAt 3 (zAE s778)
noncomputable def alpha : Str := "a'\"\\, \n=#Z$é"
theorem zLu (P : Params) (m t z : Int) (x : Str) (l : List SO) (k : Kt) : zAN zDm (zAl zJP) (.int t) ⟨[("more", .int m), ("size", .int z), ("text", .str x)], l⟩ (fun st₁ => ev (cfE P) 54 zDm (.sts (zAZ zJP)) st₁ k) =
   ((12 : Int) ≠ 0 ∧ (-(alpha.length : Int) ≤ m.fmod 12 ∧ m.fmod 12 < alpha.length ∧ (x.length + (Txt.item alpha (m.fmod 12)).length ≤ sizeLine ∧ ((12 : Int) ≠ 0 ∧ (12 : Int).natAbs < 1073741824) ∧
     k .next ⟨[("more", .int (m.fdiv 12)), ("size", .int z), ("text", .str (x ++ Txt.item alpha (m.fmod 12))), ("turn", .int t)], l⟩))) := by
  kernel_rfl
theorem zOR (P : Params) (m z : Int) (k : Kt) : ev (cfE P) 57 zDm (.sts ((zAE s778).drop 3)) ⟨[("more", .int m), ("size", .int z), ("text", .str "")], []⟩ k =
   (0 ≤ z ∧ z.toNat ≤ sizeLine ∧ forE (zAN zDm (zAl zJP)) (fun st k => ev (cfE P) 54 zDm (.sts (zAZ zJP)) st k) (.obj 0) ((List.range z.toNat).map fun (j : Nat) => SV.int (j : Int)) (.itr z.toNat) 1 0 ((List.range z.toNat).map fun (j : Nat) => SV.int (j : Int))
     ⟨[("more", .int m), ("size", .int z), ("text", .str "")], [.rng z.toNat, .itr z.toNat 0]⟩ (zDF (fun st k => ev (cfE P) 56 zDm (.sts ((zAE s778).drop 4)) st k) k)) := by
  kernel_rfl
theorem zOQ (P : Params) (m z : Int) (x : Str) (l : List SO) (k : Kt) : ev (cfE P) 56 zDm (.sts ((zAE s778).drop 4)) ⟨[("more", .int m), ("size", .int z), ("text", .str x)], l⟩ k = k (.ret (.str x)) ⟨[("more", .int m), ("size", .int z), ("text", .str x)], l⟩ := by
 kernel_rfl
noncomputable def zDJ (i : Int) : Nat := alpha.cps.toList.getD i.toNat 0
noncomputable def txtN : Nat → Int → List Nat
 | 0, _ => []
 | n + 1, m => zDJ (m.fmod 12) :: txtN n (m.fdiv 12)
theorem zLN (i : Int) (h0 : 0 ≤ i) (h1 : i < 12) : Txt.item alpha i = sgS (zDJ i) := by
 have key : ∀ n : Fin 12, Txt.item alpha (n.1 : Int) = sgS (zDJ (n.1 : Int)) := by decide +kernel
 have := key ⟨i.toNat, (Int.toNat_lt h0).mpr h1⟩
 rwa [Int.toNat_of_nonneg h0] at this
theorem zOH : (alpha.length : Int) = 12 := by rfl
theorem zLv (P : Params) (z : Int) (all : List SV) (N : Nat) (hall : all = (List.range N).map fun (j : Nat) => SV.int (j : Int)) (k : Kt) : ∀ (rest : List Nat) (j : Nat) (m : Int) (x : List Nat), x.length + rest.length ≤ 1000 →
  (∀ m', k .next ⟨[("more", .int m'), ("size", .int z), ("text", .str (tx (x ++ txtN rest.length m)))], [.rng N, .gone]⟩) →
  forE (zAN zDm (zAl zJP)) (fun st k => ev (cfE P) 54 zDm (.sts (zAZ zJP)) st k) (.obj 0) all (.itr N) 1 j (rest.map fun (j : Nat) => SV.int (j : Int))
   ⟨[("more", .int m), ("size", .int z), ("text", .str (tx x))], [.rng N, .itr N j]⟩ k := by
 intro rest
 induction rest with
 | nil =>
  intro j m x h hk
  refine ⟨rfl, by rw [hall]; rfl, ?_⟩
  have := hk m
  rw [List.length_nil] at this
  show k .next ⟨[("more", .int m), ("size", .int z), ("text", .str (tx x))], [.rng N, .gone]⟩
  have e : x ++ txtN 0 m = x := List.append_nil x
  rw [e] at this; exact this
 | cons a r ih =>
  intro j m x h hk
  rw [List.length_cons] at h hk
  refine ⟨rfl, by rw [hall]; rfl, ?_⟩
  show zAN zDm (zAl zJP) (.int a) ⟨[("more", .int m), ("size", .int z), ("text", .str (tx x))], [.rng N, .itr N (j + 1)]⟩ _
  rw [zLu, zOH]
  have h0 : 0 ≤ m.fmod 12 := Int.fmod_nonneg_of_pos m (by decide)
  have h1 : m.fmod 12 < 12 := Int.fmod_lt_of_pos m (by decide)
  rw [zLN _ h0 h1]
  refine ⟨by decide, by lia, h1, by rw [zAF, zCG, sizeLine_eq]; lia, ⟨by decide, by decide⟩, ⟨[("more", .int (m.fdiv 12)), ("size", .int z), ("text", .str (tx (x ++ [zDJ (m.fmod 12)])))], [.rng N, .itr N (j + 1)]⟩, ?_, ?_⟩
  ·rw [← zGB, zAP]
   exact zDE (n := 2) (loc := [("more", .int (m.fdiv 12)), ("size", .int z), ("text", .str (tx (x ++ [zDJ (m.fmod 12)])))]) (more := [("turn", .int a)]) ⟨trivial, trivial, trivial, trivial⟩ (.cons .rng (.cons .itr .nil))
  ·refine ih (j + 1) (m.fdiv 12) (x ++ [zDJ (m.fmod 12)]) (by simp; lia) fun m' => ?_
   have e : x ++ [zDJ (m.fmod 12)] ++ txtN r.length (m.fdiv 12) = x ++ txtN (r.length + 1) m := by
    rw [List.append_assoc]; rfl
   rw [e]; exact hk m'
theorem cokE (w : World) : CfOk w (cfE w.params) := ⟨zAD, zAD, zAn (zAA ⟨by kernel_rfl, .inr ⟨by kernel_rfl, by kernel_rfl, by kernel_rfl⟩⟩ zAD), zAD, zAD, zAD⟩
noncomputable def zLL (m : Int) : List Nat := txtN (m.fmod 3).toNat (m.fdiv 3)
noncomputable def zSp (svs : List SV) (st : St) (k : Kt) : Prop := on1 svs fun x => onI x fun m => k (.v (.str (tx (zLL m)))) st
noncomputable def textSp : SpE := ⟨778, 1, 80, zSp⟩
theorem zIj {svs : List SV} {st : St} {k : Kt} (h : zSp svs st k) : ∃ m, svs = [.int m] ∧ k (.v (.str (tx (zLL m)))) st := by
 obtain ⟨x, rfl, h⟩ := zAb h
 obtain ⟨b, rfl, h⟩ := zCJ h
 exact ⟨_, rfl, h⟩
theorem zQr {w : World} {C : Cf} (hK : C.K = KK w.params) (hC : C.known = true) : SpOk w C textSp := by
 refine ⟨by rw [hK]; kernel_rfl, ?_⟩
 intro F A ads st s svs vs k Q Rr ok hA hh hd hu h R D hl' T hR
 replace hA : true = true → A.frames = some F.stk := fun _ => hA hC
 obtain ⟨m, rfl, hk⟩ := zIj h
 have okY : FmOk (cfE w.params) F := zAX hK.symm ok (by first | exact fun _ => rfl | exact fun _ => by assumption | exact fun h => h)
 have d40 : textSp.d = 80 := rfl
 rw [d40] at hd hu
 refine zBS (e := f778) (n := 60) (led₁ := []) (led₂ := st.led) (zBs (cokE w) 60) (zTf _) okY hA hh (by lia) (by lia) R D hl' rfl trivial (fun x hx => by rw [List.mem_singleton.mp hx]; exact trivial) List.nodup_nil ?_ T hR
 show ev (cfE w.params) 60 zDm (.sts (zAE s778)) ⟨[("more", .int m)], []⟩ _
 rw [zLw, zOR]
 have h0 : 0 ≤ m.fmod 3 := Int.fmod_nonneg_of_pos m (by decide)
 have h1 : m.fmod 3 < 3 := Int.fmod_lt_of_pos m (by decide)
 refine ⟨by decide, ⟨by decide, by decide⟩, h0, by rw [sizeLine_eq]; lia, ?_⟩
 refine zLv w.params (m.fmod 3) _ (m.fmod 3).toNat rfl _ (List.range (m.fmod 3).toNat) 0 (m.fdiv 3) [] (by simp; lia) fun m' => ?_
 rw [zBC, zOQ, List.length_range]
 exact ⟨_, _, [], .inl rfl, .same trivial, .nil, hk⟩
noncomputable def s785 : Stmt := stAt 33 B01
noncomputable def f785 : FnE := ⟨785, 1, ["script"], [], zAE s785, zAB s785, "_law_tree", .ref 784, []⟩
theorem zTe (P : Params) : FnOk (KK P) f785 := FnOk.of (by kernel_rfl) (by kernel_rfl) ⟨_, _, _, _, (by kernel_rfl : (KK P).lookup 785 = some (o785 P)), rfl, rfl, fun _ _ => rfl, rfl, rfl, fun s vs X h => by
 obtain ⟨a, rfl⟩ := len1 h
 exact BindsTo.of_eq (by kernel_rfl)⟩
noncomputable def zAq : List (Str × NameKind) := (zAB s785).names
noncomputable def zCA : Stmt := stAt 2 (zAE s785)
noncomputable def zQQ : Stmt → Expr
 | .For _ b _ _ _ => b
 | _ => default
noncomputable def zUi : Stmt → Pos
 | .For _ _ _ _ p => p
 | _ => default
noncomputable abbrev cfTi (P : Params) : Cf where
 K := KK P
 globs := [("len", .builtin "len"), ("_law_text", .ref 778)]
 fns := []
 cls := []
 sps := [textSp]
theorem zUn (w : World) : CfOk w (cfTi w.params) := ⟨zAD, zAD, zAn (zAA ⟨by kernel_rfl, .inr ⟨by kernel_rfl, by kernel_rfl, by kernel_rfl⟩⟩ <| zAA ⟨by kernel_rfl, .inl (by kernel_rfl)⟩ zAD), zAA (zQr rfl rfl) zAD, zAD, zAD⟩
noncomputable def zNk (P : Params) : HkE Stmt := zSS (cfTi P) 100 zAq (zAl zCA) (zQQ zCA) (zAZ zCA) (zUi zCA)
noncomputable abbrev cfTr (P : Params) : Cf where
 K := KK P
 globs := [("len", .builtin "len"), ("_law_text", .ref 778)]
 fns := []
 cls := []
 hss := [zNk P]
theorem zUm (w : World) : CfOk w (cfTr w.params) := ⟨zAD, zAD, zAn (zAA ⟨by kernel_rfl, .inr ⟨by kernel_rfl, by kernel_rfl, by kernel_rfl⟩⟩ <| zAA ⟨by kernel_rfl, .inl (by kernel_rfl)⟩ zAD), zAD, zAD, zAA (zPh (zUn w) rfl fun _ => rfl) zAD⟩
noncomputable abbrev ltT (d : SV) : List (Str × SV) := [("script", d), ("root", .obj 0), ("floors", .obj 1)]
noncomputable def zQp (P : Params) (ds : List PyData) (kd : Str) (k : Kt) : Prop := zCA = zCA ∧ (zNk P).sp zAq ⟨ltT (.dat (.list ds)), [.list [.str kd], .list [.obj 0]]⟩ (zDF (fun st k => ev (cfTr P) 117 zAq (.sts ((zAE s785).drop 3)) st k) k)
theorem zLq (P : Params) (ds : List PyData) (k : Kt) : ev (cfTr P) 120 zAq (.sts (zAE s785)) ⟨[("script", .dat (.list ds))], []⟩ k =
   ((ds.map svOf).length ≤ sizeLine ∧ ((2 : Int) ≠ 0 ∧ ifT ((((ds.map svOf).length : Int).fmod 2) == 0) (zQp P ds "s" k) (zQp P ds "h" k))) := by
  kernel_rfl
theorem zLp (P : Params) (ds : List PyData) (l : List SO) (k : Kt) : ev (cfTi P) 100 zAq (.ex (zQQ zCA)) ⟨ltT (.dat (.list ds)), l⟩ k = k (.v (.dat (.list (slD ds none (some 6))))) ⟨ltT (.dat (.list ds)), l⟩ := by
 kernel_rfl
theorem zON (P : Params) (d : SV) (l : List SO) (k : Kt) : ev (cfTr P) 117 zAq (.sts ((zAE s785).drop 3)) ⟨ltT d, l⟩ k = k (.ret (.obj 0)) ⟨ltT d, l⟩ := by
 kernel_rfl
noncomputable def zDZ : Stmt → List Stmt
 | .If _ _ e _ => e
 | _ => []
noncomputable def onT (C : Cf) (n : Nat) (ns : List (Str × NameKind)) (m : Str) (args : List Expr) (pos : Pos) (st : St) (x : SV) (k : Kt) : Prop := match zKD st x with
 | true => zRq C st x m fun fa => ev C n ns (.args args pos) st fun b st₂ => match b with
  | .vs vs => zDC C n (ev C n) fa (x :: vs) st₂ k
  | _ => False
 | false => bmT st x m fun mid => ev C n ns (.args args pos) st fun b st₂ => match b with
  | .vs vs => bcT mid st₂ x vs fun z st₃ => k (.v z) st₃
  | _ => False
noncomputable def zKH : Stmt → List Expr
 | .Expr (.Call _ args _ _) _ => args
 | _ => []
noncomputable def zPl : Stmt → Pos
 | .Expr (.Call _ _ _ p) _ => p
 | _ => default
noncomputable def zTu (f : St → Prop) : Kt := fun r st => match r with
 | .v _ => f st
 | _ => False
noncomputable def zBy : Stmt := stAt 1 (zAZ zCA)
noncomputable def zHS : Stmt := stAt 0 (zDZ zBy)
noncomputable abbrev ltX (d : SV) (x : Int) : List (Str × SV) := [("script", d), ("root", .obj 0), ("floors", .obj 1), ("x", .int x), ("kind", .int (x.fmod 8))]
noncomputable abbrev ltB (d : SV) (x : Int) (b : SV) : List (Str × SV) := [("script", d), ("root", .obj 0), ("floors", .obj 1), ("x", .int x), ("kind", .int (x.fmod 8)), ("branch", b)]
noncomputable def nxt (k : Kt) : Kt := zDF (fun st k => k .next st) k
theorem zEm (P : Params) (d : SV) (x : Int) (a : SO) (fl : List SV) (l : List SO) (k : Kt) : zAN zAq (zAl zCA) (.int x) ⟨ltT d, a :: .list fl :: l⟩ (fun st₁ => ev (cfTi P) 100 zAq (.sts (zAZ zCA)) st₁ k) =
   ((8 : Int) ≠ 0 ∧ ifT (decide (x.fmod 8 < 4)) (fl.length ≤ sizeLine ∧ ifT (decide ((fl.length : Int) < 3)) (ev (cfTi P) 97 zAq (.sts (zAV zBy)) ⟨ltX d x, a :: .list fl :: l⟩ (nxt k)) (ev (cfTi P) 97 zAq (.sts (zDZ zBy)) ⟨ltX d x, a :: .list fl :: l⟩ (nxt k)))
     (ev (cfTi P) 97 zAq (.sts (zDZ zBy)) ⟨ltX d x, a :: .list fl :: l⟩ (nxt k))) := by
  kernel_rfl
theorem zLn (P : Params) (d : SV) (x : Int) (a : SO) (fl : List SV) (l : List SO) (k : Kt) : ev (cfTi P) 97 zAq (.sts (zAV zBy)) ⟨ltX d x, a :: .list fl :: l⟩ k =
   (-((("shed" : Str)).length : Int) ≤ x.fmod 8 ∧ x.fmod 8 < (("shed" : Str)).length ∧ ∃ y, idxP fl (-1) y ∧ onT (cfTi P) 93 zAq "append" (zKH (stAt 1 (zAV zBy))) (zPl (stAt 1 (zAV zBy)))
      ⟨ltB d x (.obj (a :: .list fl :: l).length), (a :: .list fl :: l) ++ [.list [.str (Txt.item "shed" (x.fmod 8))]]⟩ y
      (zTu fun st => ev (cfTi P) 95 zAq (.sts ((zAV zBy).drop 2)) st k)) := by
  kernel_rfl
theorem zEW (P : Params) (d : SV) (x : Int) (a : SO) (fl : List SV) (l : List SO) (k : Kt) : ev (cfTi P) 97 zAq (.sts (zDZ zBy)) ⟨ltX d x, a :: .list fl :: l⟩ k =
   ifT (x.fmod 8 != 4) (∃ y, idxP fl (-1) y ∧ onT (cfTi P) 92 zAq "append" (zKH (stAt 0 (zAV zHS))) (zPl (stAt 0 (zAV zHS))) ⟨ltX d x, a :: .list fl :: l⟩ y
        (zTu fun st => nxt k .next st))
     (fl.length ≤ sizeLine ∧ ifT (decide ((1 : Int) < (fl.length : Int))) (∃ xs y, some (SO.list fl) = some (.list (xs ++ [y])) ∧ xs.length < sizeLine ∧ nxt (nxt k) .next ⟨ltX d x, a :: .list xs :: l⟩) (nxt (nxt k) .next ⟨ltX d x, a :: .list fl :: l⟩)) := by
  kernel_rfl
theorem zMf {C : Cf} {n : Nat} {ns : List (Str × NameKind)} {args : List Expr} {pos : Pos} {st : St} {i : Nat} {xs : List SV} {k : Kt} (h : st.led[i]? = some (.list xs))
  (e : ev C n ns (.args args pos) st fun b st₂ => match b with | .vs vs => bcT "list.append" st₂ (.obj i) vs fun z st₃ => k (.v z) st₃ | _ => False) : onT C n ns "append" args pos st (.obj i) k := by
 unfold onT
 have h1 : zKD st (.obj i) = false := by unfold zKD; dsimp only; rw [h]
 rw [h1]
 show zHu st.led[i]? _
 rw [h]
 exact e
theorem zJT (P : Params) (d : SV) (x : Int) (b : SV) (L : List SO) (k : Kt) : ev (cfTi P) 93 zAq (.args (zKH (stAt 1 (zAV zBy))) (zPl (stAt 1 (zAV zBy)))) ⟨ltB d x b, L⟩ k = k (.vs [b]) ⟨ltB d x b, L⟩ := by
 kernel_rfl
theorem zOE (P : Params) (d : SV) (x : Int) (L : List SO) (k : Kt) : ev (cfTi P) 92 zAq (.args (zKH (stAt 0 (zAV zHS))) (zPl (stAt 0 (zAV zHS)))) ⟨ltX d x, L⟩ k =
   (((8 : Int) ≠ 0 ∧ (8 : Int).natAbs < 1073741824) ∧ k (.vs [.str (tx (zLL (x.fdiv 8)))]) ⟨ltX d x, L⟩) := by
  kernel_rfl
theorem zGd (P : Params) (d : SV) (x : Int) (b : SV) (a : SO) (fl : List SV) (l : List SO) (k : Kt) : ev (cfTi P) 95 zAq (.sts ((zAV zBy).drop 2)) ⟨ltB d x b, a :: .list fl :: l⟩ k =
   (fl.length ≤ sizeLine ∧ k .next ⟨ltB d x b, a :: .list (fl ++ [b]) :: l⟩) := by
  kernel_rfl
inductive TS where
 | one (r : List PyData)
 | two (r a : List PyData)
 | three (r a b : List PyData)
noncomputable def zCy (x : Int) : Str := Txt.item "shed" (x.fmod 8)
noncomputable def zDX (x : Int) : PyData := .str (tx (zLL (x.fdiv 8)))
noncomputable def zBI (x : Int) : TS → TS
 | .one r => if x.fmod 8 < 4 then .two r [.str (zCy x)] else if x.fmod 8 = 4 then .one r else .one (r ++ [zDX x])
 | .two r a => if x.fmod 8 < 4 then .three r a [.str (zCy x)] else if x.fmod 8 = 4 then .one (r ++ [.list a]) else .two r (a ++ [zDX x])
 | .three r a b => if x.fmod 8 = 4 then .two r (a ++ [.list b]) else .three r a (b ++ [zDX x])
noncomputable def TS.fin : TS → PyData
 | .one r => .list r
 | .two r a => .list (r ++ [.list a])
 | .three r a b => .list (r ++ [.list (a ++ [.list b])])
noncomputable def TS.len : TS → Nat
 | .one r => r.length
 | .two r a => r.length + a.length
 | .three r a b => r.length + a.length + b.length
noncomputable def TS.led (it : SO) : TS → List SO
 | .one r => [.list (r.map svOf), .list [.obj 0], it]
 | .two r a => [.list (r.map svOf ++ [.obj 3]), .list [.obj 0, .obj 3], it, .list (a.map svOf)]
 | .three r a b => [.list (r.map svOf ++ [.obj 3]), .list [.obj 0, .obj 3, .obj 4], it, .list (a.map svOf ++ [.obj 4]), .list (b.map svOf)]
theorem zDa {fl : List SV} {y : SV} (h : fl ≠ []) (e : fl.getLast h = y) (hl : fl.length ≤ 1000) : idxP fl (-1) y := by
 have hp : 0 < fl.length := List.length_pos_iff.mpr h
 refine ⟨fl.length - 1, ?_, ?_, by decide, by decide⟩
 ·unfold seqIndex?
  simp
  lia
 ·rw [← e, List.getLast_eq_getElem, List.getElem?_eq_getElem]
theorem zAu {n : Nat} {led : List SO} : ∀ {a b c d : List SV}, SvsT n led a b → SvsT n led c d → SvsT n led (a ++ c) (b ++ d) := by
 intro a b c d r h
 induction r with
 | nil => exact h
 | cons x _ ih => exact .cons x ih
theorem zBM (led : List SO) : ∀ l : List PyData, FrzL led (l.map svOf) l
 | [] => .nil
 | d :: r => .cons (by cases d <;> constructor) (zBM led r)
theorem zHM {led : List SO} : ∀ {a c : List SV} {b d : List PyData}, FrzL led a b → FrzL led c d → FrzL led (a ++ c) (b ++ d) := by
 intro a
 induction a with
 | nil => intro c b d r h; cases r; exact h
 | cons x xs ih => intro c b d r h; cases r with | cons x r => exact .cons x (ih r h)
theorem zMl {n : Nat} (ds : List PyData) (h : 2 ≤ n) : okF n (ltT (.dat (.list ds))) := ⟨trivial, by show 0 < n; lia, by show 1 < n; lia, trivial⟩
theorem zTL (d : SV) (x : Int) (b : SV) : ltB d x b = ltT d ++ ([("x", .int x), ("kind", .int (x.fmod 8)), ("branch", b)] : List (Str × SV)) := rfl
theorem zTK (d : SV) (x : Int) : ltX d x = ltT d ++ ([("x", .int x), ("kind", .int (x.fmod 8))] : List (Str × SV)) := rfl
theorem zPx {n : Nat} (ds : List PyData) (x : Int) (b : SV) {led led' : List SO} (hn : 2 ≤ n) (h : SosT n led (led.take n) led') : Trim n ⟨ltB (.dat (.list ds)) x b, led⟩ ⟨ltT (.dat (.list ds)), led'⟩ := by
 rw [zTL]; exact zHZ (zMl ds hn) h
theorem zGC {n : Nat} (ds : List PyData) (x : Int) {led led' : List SO} (hn : 2 ≤ n) (h : SosT n led (led.take n) led') : Trim n ⟨ltX (.dat (.list ds)) x, led⟩ ⟨ltT (.dat (.list ds)), led'⟩ := by
 rw [zTK]; exact zHZ (zMl ds hn) h
theorem zDU (r : List PyData) (d : PyData) : (r ++ [d]).map svOf = r.map svOf ++ [svOf d] := by rw [List.map_append]; rfl
section
variable {P : Params} {ds : List PyData} {x : Int} {it : SO} {K : Kt} {G : St → Prop}
theorem zHK {p : Prop} [Decidable p] {a b : Prop} (h1 : p → a) (h2 : ¬ p → b) : ifT (decide p) a b := zAv (fun q => h1 (of_decide_eq_true q)) fun q => h2 (of_decide_eq_false q)
theorem zGD {a : SO} {fl : List SV} {l : List SO} {i : Nat} {xs : List SV} (h1 : x.fmod 8 < 4) (hi : idxP fl (-1) (.obj i)) (hs : ((a :: SO.list fl :: l) ++ [SO.list [SV.str (zCy x)]])[i]? = some (SO.list xs)) (hx : xs.length ≤ 1000)
  (hk : ∀ l', ((a :: SO.list fl :: l) ++ [SO.list [SV.str (zCy x)]]).set i (SO.list (xs ++ [SV.obj (a :: SO.list fl :: l).length])) = l' → ev (cfTi P) 95 zAq (.sts ((zAV zBy).drop 2)) ⟨ltB (.dat (.list ds)) x (.obj (a :: SO.list fl :: l).length), l'⟩ K) :
  ev (cfTi P) 97 zAq (.sts (zAV zBy)) ⟨ltX (.dat (.list ds)) x, a :: SO.list fl :: l⟩ K := by
 rw [zLn]
 have e4 : (("shed" : Str).length : Int) = 4 := by rfl
 have h0 : 0 ≤ x.fmod 8 := Int.fmod_nonneg_of_pos x (by decide)
 refine ⟨by rw [e4]; lia, by rw [e4]; exact h1, _, hi, zMf hs ?_⟩
 rw [zJT]
 show zHu ((a :: SO.list fl :: l) ++ [SO.list [SV.str (Txt.item "shed" (x.fmod 8))]])[i]? _
 have hs' : ((a :: SO.list fl :: l) ++ [SO.list [SV.str (Txt.item "shed" (x.fmod 8))]])[i]? = some (SO.list xs) := hs
 rw [hs']
 exact ⟨by rw [sizeLine_eq]; lia, hk _ rfl⟩
theorem zDi {a : SO} {fl : List SV} {l : List SO} {i : Nat} {xs : List SV} (h1 : x.fmod 8 ≠ 4) (hi : idxP fl (-1) (.obj i)) (hs : (a :: SO.list fl :: l)[i]? = some (SO.list xs)) (hx : xs.length ≤ 1000)
  (hk : ∀ l', (a :: SO.list fl :: l).set i (.list (xs ++ [svOf (zDX x)])) = l' → K .next ⟨ltX (.dat (.list ds)) x, l'⟩) :
  ev (cfTi P) 97 zAq (.sts (zDZ zBy)) ⟨ltX (.dat (.list ds)) x, a :: SO.list fl :: l⟩ K := by
 rw [zEW]
 have hb : (x.fmod 8 != 4) = true := by simpa using h1
 rw [hb]
 refine ⟨_, hi, zMf hs ?_⟩
 rw [zOE]
 refine ⟨⟨by decide, by decide⟩, ?_⟩
 show zHu (a :: SO.list fl :: l)[i]? _
 rw [hs]
 exact ⟨by rw [sizeLine_eq]; lia, hk _ rfl⟩
end
theorem zLm (P : Params) (ds : List PyData) (x : Int) (t : TS) (it : SO) (K : Kt) (G : St → Prop) (hit : ∀ n led, 2 < n → SoT n led it it) (hl : t.len ≤ 900)
  (hK : ∀ st₂ n st₃, 3 ≤ n → n ≤ st₂.led.length → Trim n st₂ st₃ → G st₃ → K .next st₂) (hG : G ⟨ltT (.dat (.list ds)), (zBI x t).led it⟩) :
  zAN zAq (zAl zCA) (.int x) ⟨ltT (.dat (.list ds)), t.led it⟩ (fun st₁ => ev (cfTi P) 100 zAq (.sts (zAZ zCA)) st₁ K) := by
 have hmap : ∀ r : List PyData, (r.map svOf).length = r.length := fun r => List.length_map _
 have hsv : ∀ (n : Nat) (led : List SO) (r : List PyData), SvsT n led (r.map svOf) (r.map svOf) := fun n led r => zAx n led r
 have hob : ∀ (n : Nat) (led : List SO) (i : Nat), i < n → SvsT n led [.obj i] [.obj i] := fun n led i h => .cons (.keep h) .nil
 have hfl2 : ∀ (n : Nat) (led : List SO), 3 < n → SvsT n led [.obj 0, .obj 3] [.obj 0, .obj 3] := fun n led h => .cons (.keep (by lia)) (.cons (.keep h) .nil)
 have hfl3 : ∀ (n : Nat) (led : List SO), 4 < n → SvsT n led [.obj 0, .obj 3, .obj 4] [.obj 0, .obj 3, .obj 4] := fun n led h => .cons (.keep (by lia)) (.cons (.keep (by lia)) (.cons (.keep h) .nil))
 cases t with
 | one r =>
  have hl1 : r.length ≤ 900 := hl
  show zAN zAq (zAl zCA) (.int x) ⟨ltT (.dat (.list ds)), .list (r.map svOf) :: .list [.obj 0] :: [it]⟩ _
  rw [zEm]
  refine ⟨by decide, ?_⟩
  have hels : ¬ x.fmod 8 < 4 → ev (cfTi P) 97 zAq (.sts (zDZ zBy)) ⟨ltX (.dat (.list ds)) x, .list (r.map svOf) :: .list [.obj 0] :: [it]⟩ (nxt K) := fun h4 => by
   by_cases h5 : x.fmod 8 = 4
   ·have e : zBI x (.one r) = .one r := by unfold zBI; dsimp only; rw [if_neg h4, if_pos h5]
    rw [e] at hG
    rw [zEW]
    have hb : (x.fmod 8 != 4) = false := by simpa using h5
    rw [hb]
    refine ⟨by rw [sizeLine_eq]; decide, ?_⟩
    refine hK _ 3 _ (by lia) (Nat.le_refl 3) (zGC ds x (by lia) ?_) hG
    exact .cons (.list (hsv _ _ _)) (.cons (.list (hob _ _ _ (by lia))) (.cons (hit _ _ (by lia)) .nil))
   ·have e : zBI x (.one r) = .one (r ++ [zDX x]) := by unfold zBI; dsimp only; rw [if_neg h4, if_neg h5]
    rw [e] at hG
    refine zDi (i := 0) h5 (zDa (by intro h; cases h) rfl (by decide)) rfl (by rw [hmap]; lia) fun l' el => ?_
    subst el
    refine hK _ 3 _ (by lia) (Nat.le_refl 3) (zGC ds x (by lia) (led' := [.list ((r ++ [zDX x]).map svOf), .list [.obj 0], it]) ?_) hG
    rw [zDU]
    exact .cons (.list (zAu (hsv _ _ _) (hsv _ _ [zDX x]))) (.cons (.list (hob _ _ _ (by lia))) (.cons (hit _ _ (by lia)) .nil))
  refine zHK (fun h4 => ⟨by rw [sizeLine_eq]; decide, ?_⟩) hels
  have e : zBI x (.one r) = .two r [.str (zCy x)] := by unfold zBI; dsimp only; rw [if_pos h4]
  rw [e] at hG
  refine zAv (fun _ => ?_) (fun q => absurd (of_decide_eq_false q) (by simp))
  refine zGD (i := 0) h4 (zDa (by intro h; cases h) rfl (by decide)) rfl (by rw [hmap]; lia) fun l' el => ?_
  subst el
  show ev (cfTi P) 95 zAq (.sts ((zAV zBy).drop 2)) ⟨ltB (.dat (.list ds)) x (.obj 3), .list (r.map svOf ++ [SV.obj 3]) :: .list [.obj 0] :: [it, .list [.str (zCy x)]]⟩ (nxt K)
  rw [zGd]
  refine ⟨by rw [sizeLine_eq]; decide, ?_⟩
  refine hK _ 4 _ (by lia) (Nat.le_refl 4) (zPx ds x _ (by lia) ?_) hG
  exact .cons (.list (zAu (hsv _ _ _) (hob _ _ _ (by lia)))) (.cons (.list (hfl2 _ _ (by lia))) (.cons (hit _ _ (by lia)) (.cons (.list (hsv _ _ [.str (zCy x)])) .nil)))
 | two r a =>
  have hl1 : r.length + a.length ≤ 900 := hl
  show zAN zAq (zAl zCA) (.int x) ⟨ltT (.dat (.list ds)), .list (r.map svOf ++ [SV.obj 3]) :: .list [.obj 0, .obj 3] :: [it, .list (a.map svOf)]⟩ _
  rw [zEm]
  refine ⟨by decide, ?_⟩
  have hels : ¬ x.fmod 8 < 4 → ev (cfTi P) 97 zAq (.sts (zDZ zBy)) ⟨ltX (.dat (.list ds)) x, .list (r.map svOf ++ [SV.obj 3]) :: .list [.obj 0, .obj 3] :: [it, .list (a.map svOf)]⟩ (nxt K) := fun h4 => by
   by_cases h5 : x.fmod 8 = 4
   ·have e : zBI x (.two r a) = .one (r ++ [.list a]) := by unfold zBI; dsimp only; rw [if_neg h4, if_pos h5]
    rw [e] at hG
    rw [zEW]
    have hb : (x.fmod 8 != 4) = false := by simpa using h5
    rw [hb]
    refine ⟨by rw [sizeLine_eq]; decide, ?_⟩
    refine ⟨[.obj 0], .obj 3, rfl, by rw [sizeLine_eq]; decide, ?_⟩
    refine hK _ 3 _ (by lia) (by show 3 ≤ 4; lia) (zGC ds x (by lia) (led' := [.list ((r ++ [PyData.list a]).map svOf), .list [.obj 0], it]) ?_) hG
    rw [zDU]
    refine .cons (.list (zAu (hsv _ _ _) (.cons ?_ .nil))) (.cons (.list (hob _ _ _ (by lia))) (.cons (hit _ _ (by lia)) .nil))
    exact .frz (.list rfl (by rw [hmap, sizeLine_eq]; lia) (zBM _ a))
   ·have e : zBI x (.two r a) = .two r (a ++ [zDX x]) := by unfold zBI; dsimp only; rw [if_neg h4, if_neg h5]
    rw [e] at hG
    refine zDi (i := 3) h5 (zDa (by intro h; cases h) rfl (by decide)) rfl (by rw [hmap]; lia) fun l' el => ?_
    subst el
    refine hK _ 4 _ (by lia) (Nat.le_refl 4) (zGC ds x (by lia) (led' := [.list (r.map svOf ++ [SV.obj 3]), .list [.obj 0, .obj 3], it, .list ((a ++ [zDX x]).map svOf)]) ?_) hG
    rw [zDU]
    exact .cons (.list (zAu (hsv _ _ _) (hob _ _ _ (by lia)))) (.cons (.list (hfl2 _ _ (by lia))) (.cons (hit _ _ (by lia)) (.cons (.list (zAu (hsv _ _ _) (hsv _ _ [zDX x]))) .nil)))
  refine zHK (fun h4 => ⟨by rw [sizeLine_eq]; decide, ?_⟩) hels
  have e : zBI x (.two r a) = .three r a [.str (zCy x)] := by unfold zBI; dsimp only; rw [if_pos h4]
  rw [e] at hG
  refine zAv (fun _ => ?_) (fun q => absurd (of_decide_eq_false q) (by simp))
  refine zGD (i := 3) h4 (zDa (by intro h; cases h) rfl (by decide)) rfl (by rw [hmap]; lia) fun l' el => ?_
  subst el
  show ev (cfTi P) 95 zAq (.sts ((zAV zBy).drop 2)) ⟨ltB (.dat (.list ds)) x (.obj 4), .list (r.map svOf ++ [SV.obj 3]) :: .list [.obj 0, .obj 3] :: [it, .list (a.map svOf ++ [SV.obj 4]), .list [.str (zCy x)]]⟩ (nxt K)
  rw [zGd]
  refine ⟨by rw [sizeLine_eq]; decide, ?_⟩
  refine hK _ 5 _ (by lia) (Nat.le_refl 5) (zPx ds x _ (by lia) ?_) hG
  exact .cons (.list (zAu (hsv _ _ _) (hob _ _ _ (by lia)))) (.cons (.list (hfl3 _ _ (by lia))) (.cons (hit _ _ (by lia)) (.cons (.list (zAu (hsv _ _ _) (hob _ _ _ (by lia)))) (.cons (.list (hsv _ _ [.str (zCy x)])) .nil))))
 | three r a b =>
  have hl1 : r.length + a.length + b.length ≤ 900 := hl
  show zAN zAq (zAl zCA) (.int x) ⟨ltT (.dat (.list ds)), .list (r.map svOf ++ [SV.obj 3]) :: .list [.obj 0, .obj 3, .obj 4] :: [it, .list (a.map svOf ++ [SV.obj 4]), .list (b.map svOf)]⟩ _
  rw [zEm]
  refine ⟨by decide, ?_⟩
  have hels : ev (cfTi P) 97 zAq (.sts (zDZ zBy)) ⟨ltX (.dat (.list ds)) x, .list (r.map svOf ++ [SV.obj 3]) :: .list [.obj 0, .obj 3, .obj 4] :: [it, .list (a.map svOf ++ [SV.obj 4]), .list (b.map svOf)]⟩ (nxt K) := by
   by_cases h5 : x.fmod 8 = 4
   ·have e : zBI x (.three r a b) = .two r (a ++ [.list b]) := by unfold zBI; dsimp only; rw [if_pos h5]
    rw [e] at hG
    rw [zEW]
    have hb : (x.fmod 8 != 4) = false := by simpa using h5
    rw [hb]
    refine ⟨by rw [sizeLine_eq]; decide, ?_⟩
    refine ⟨[.obj 0, .obj 3], .obj 4, rfl, by rw [sizeLine_eq]; decide, ?_⟩
    refine hK _ 4 _ (by lia) (by show 4 ≤ 5; lia) (zGC ds x (by lia) (led' := [.list (r.map svOf ++ [SV.obj 3]), .list [.obj 0, .obj 3], it, .list ((a ++ [PyData.list b]).map svOf)]) ?_) hG
    rw [zDU]
    refine .cons (.list (zAu (hsv _ _ _) (hob _ _ _ (by lia)))) (.cons (.list (hfl2 _ _ (by lia))) (.cons (hit _ _ (by lia)) (.cons (.list (zAu (hsv _ _ _) (.cons ?_ .nil))) .nil)))
    exact .frz (.list rfl (by rw [hmap, sizeLine_eq]; lia) (zBM _ b))
   ·have e : zBI x (.three r a b) = .three r a (b ++ [zDX x]) := by unfold zBI; dsimp only; rw [if_neg h5]
    rw [e] at hG
    refine zDi (i := 4) h5 (zDa (by intro h; cases h) rfl (by decide)) rfl (by rw [hmap]; lia) fun l' el => ?_
    subst el
    refine hK _ 5 _ (by lia) (Nat.le_refl 5) (zGC ds x (by lia) (led' := [.list (r.map svOf ++ [SV.obj 3]), .list [.obj 0, .obj 3, .obj 4], it, .list (a.map svOf ++ [SV.obj 4]), .list ((b ++ [zDX x]).map svOf)]) ?_) hG
    rw [zDU]
    exact .cons (.list (zAu (hsv _ _ _) (hob _ _ _ (by lia)))) (.cons (.list (hfl3 _ _ (by lia))) (.cons (hit _ _ (by lia)) (.cons (.list (zAu (hsv _ _ _) (hob _ _ _ (by lia)))) (.cons (.list (zAu (hsv _ _ _) (hsv _ _ [zDX x]))) .nil))))
  exact zHK (fun h4 => ⟨by rw [sizeLine_eq]; decide, zAv (fun q => absurd (of_decide_eq_true q) (by decide)) fun _ => hels⟩) fun _ => hels
theorem zQG (ds : List PyData) (lo hi : Option Int) : slD ds lo hi = (ds.drop (lo.elim 0 (PySem.clipAt ds.length))).take (hi.elim ds.length (PySem.clipAt ds.length) - lo.elim 0 (PySem.clipAt ds.length)) := by
 unfold slD
 rw [PySem.sliceBounds_plain]
 dsimp only
 rw [PySem.sliceRange_one, List.filterMap_map]
 generalize lo.elim 0 (PySem.clipAt ds.length) = a
 generalize hi.elim ds.length (PySem.clipAt ds.length) - a = n
 have key : ∀ (n a : Nat) (ds : List PyData), (List.range n).filterMap ((fun x => ds[x]?) ∘ fun x => a + x) = (ds.drop a).take n := by
  intro n
  induction n with
  | zero => intro a ds; rfl
  | succ n ih =>
   intro a ds
   rw [List.range_succ, List.filterMap_append, ih, List.take_add_one]
   congr 1
   rw [List.getElem?_drop]
   cases h : ds[a + n]? <;> simp [h]
 exact key n a ds
theorem zKO (n a : Nat) : PySem.clipAt n (a : Int) = min a n := PySem.clipAt_nat n a
theorem zOj (ds : List PyData) (n : Nat) : slD ds none (some (n : Int)) = ds.take n := by
 rw [zQG]
 show ((ds.drop 0).take (PySem.clipAt ds.length (n : Int) - 0)) = _
 rw [zKO, List.drop_zero, Nat.sub_zero]
 rw [List.take_eq_take_iff]
 lia
theorem zEa (ds : List PyData) (n : Nat) : slD ds (some (n : Int)) none = ds.drop n := by
 rw [zQG]
 show ((ds.drop (PySem.clipAt ds.length (n : Int))).take (ds.length - PySem.clipAt ds.length (n : Int))) = _
 rw [zKO]
 have : ds.length - min n ds.length = (ds.drop (min n ds.length)).length := by rw [List.length_drop]
 rw [this, List.take_length]
 by_cases h : n ≤ ds.length
 ·rw [Nat.min_eq_left h]
 ·rw [Nat.min_eq_right (by lia), List.drop_length, List.drop_eq_nil_of_le (by lia)]
theorem zHY (x : Int) (t : TS) : (zBI x t).len ≤ t.len + 1 := by
 cases t <;> simp only [zBI] <;> (repeat' split) <;> simp [TS.len] <;> lia
theorem zLo (P : Params) (ds es : List PyData) (all : List SV) (hall : all = es.map svOf) (k : Kt) : ∀ (rest : List Int) (j : Nat) (t : TS), t.len + rest.length ≤ 900 →
  k .next ⟨ltT (.dat (.list ds)), (rest.foldl (fun t x => zBI x t) t).led .gone⟩ →
  forG (zAN zAq (zAl zCA)) (fun st k => ev (cfTi P) 100 zAq (.sts (zAZ zCA)) st k) (.dat (.list es)) all (.it true (.dat (.list es))) 2 3 j (rest.map .int)
   ⟨ltT (.dat (.list ds)), t.led (.it true (.dat (.list es)) j)⟩ k := by
 have get2 : ∀ (t : TS) (it : SO), (t.led it)[2]? = some it := fun t it => by cases t <;> rfl
 have set2 : ∀ (t : TS) (it it' : SO), (t.led it).set 2 it' = t.led it' := fun t it it' => by cases t <;> rfl
 have src : ∀ st : St, srcT st (.dat (.list es)) = some (all, .it true (.dat (.list es))) := fun st => by rw [hall]; rfl
 intro rest
 induction rest with
 | nil =>
  intro j t hl hk
  refine ⟨get2 _ _, src _, ?_⟩
  show k .next ⟨_, (t.led _).set 2 .gone⟩
  rw [set2]; exact hk
 | cons x r ih =>
  intro j t hl hk
  rw [List.length_cons] at hl
  refine ⟨get2 _ _, src _, ?_⟩
  show zAN zAq (zAl zCA) (.int x) ⟨_, (t.led _).set 2 (.it true (.dat (.list es)) (j + 1))⟩ _
  rw [set2]
  refine zLm P ds x t _ _ (fun st₃ => forG (zAN zAq (zAl zCA)) (fun st k => ev (cfTi P) 100 zAq (.sts (zAZ zCA)) st k) (.dat (.list es)) all (.it true (.dat (.list es))) 2 3 (j + 1) (r.map .int) st₃ k)
   (fun _ _ _ => .it (.same trivial)) (by lia) (fun st₂ n st₃ h1 h2 h3 h4 => ⟨n, st₃, h1, h2, h3, h4⟩) ?_
  refine ih (j + 1) (zBI x t) ?_ hk
  have := zHY x t
  lia
noncomputable def zEA (xs : List Int) : PyData := ((xs.take 6).foldl (fun t x => zBI x t) (.one [.str (if xs.length % 2 = 0 then "s" else "h")])).fin
noncomputable def zQq (svs : List SV) (st : St) (k : Kt) : Prop := on1 svs fun x => onD x fun d => ∃ xs : List Int, d = .list (xs.map .int) ∧ xs.length ≤ 1000 ∧ k (.v (svOf (zEA xs))) st
noncomputable def treeSp : SpE := ⟨785, 1, 140, zQq⟩
theorem zIi {svs : List SV} {st : St} {k : Kt} (h : zQq svs st k) : ∃ xs : List Int, svs = [.dat (.list (xs.map .int))] ∧ xs.length ≤ 1000 ∧ k (.v (svOf (zEA xs))) st := by
 obtain ⟨x, rfl, h⟩ := zAb h
 obtain ⟨d, rfl, xs, rfl, a⟩ := zHB h
 exact ⟨xs, rfl, a⟩
theorem zTY (t : TS) (it : SO) (hl : t.len ≤ 1000) : Frz (t.led it) (.obj 0) t.fin := by
 have hmap : ∀ r : List PyData, (r.map svOf).length = r.length := fun r => List.length_map _
 cases t with
 | one r =>
  have : r.length ≤ 1000 := hl
  exact .list rfl (by rw [hmap, sizeLine_eq]; lia) (zBM _ r)
 | two r a =>
  have : r.length + a.length ≤ 1000 := hl
  exact .list (xs := r.map svOf ++ [.obj 3]) rfl (by rw [List.length_append, hmap, sizeLine_eq]; show _ + 1 ≤ _; lia) (zHM (zBM _ r) (.cons (.list (xs := a.map svOf) rfl (by rw [hmap, sizeLine_eq]; lia) (zBM _ a)) .nil))
 | three r a b =>
  have : r.length + a.length + b.length ≤ 1000 := hl
  exact .list (xs := r.map svOf ++ [.obj 3]) rfl (by rw [List.length_append, hmap, sizeLine_eq]; show _ + 1 ≤ _; lia) (zHM (zBM _ r) (.cons (.list (xs := a.map svOf ++ [.obj 4]) rfl (by rw [List.length_append, hmap, sizeLine_eq]; show _ + 1 ≤ _; lia) (zHM (zBM _ a) (.cons (.list (xs := b.map svOf) rfl (by rw [hmap, sizeLine_eq]; lia) (zBM _ b)) .nil))) .nil))
theorem zKF : ∀ (rest : List Int) (t : TS), (rest.foldl (fun t x => zBI x t) t).len ≤ t.len + rest.length
 | [], t => Nat.le_refl _
 | x :: r, t => by
  have h1 := zKF r (zBI x t)
  have h2 := zHY x t
  rw [List.foldl_cons, List.length_cons]
  lia
theorem zQo {w : World} {C : Cf} (hK : C.K = KK w.params) (hC : C.known = true) : SpOk w C treeSp := by
 refine ⟨by rw [hK]; kernel_rfl, ?_⟩
 intro F A ads st s svs vs k Q Rr ok hA hh hd hu h R D hl' T hR
 replace hA : true = true → A.frames = some F.stk := fun _ => hA hC
 obtain ⟨xs, rfl, hlen, hk⟩ := zIi h
 have okY : FmOk (cfTr w.params) F := zAX hK.symm ok (by first | exact fun _ => rfl | exact fun _ => by assumption | exact fun h => h)
 have d40 : treeSp.d = 140 := rfl
 rw [d40] at hd hu
 refine zBS (e := f785) (n := 120) (led₁ := []) (led₂ := st.led) (zBs (zUm w) 120) (zTe _) okY hA hh (by lia) (by lia) R D hl' rfl trivial (fun x hx => by rw [List.mem_singleton.mp hx]; exact trivial) List.nodup_nil ?_ T hR
 show ev (cfTr w.params) 120 zAq (.sts (zAE s785)) ⟨[("script", .dat (.list (xs.map .int)))], []⟩ _
 rw [zLq]
 have hm : ((xs.map PyData.int).map svOf).length = xs.length := by simp
 have hmi : ∀ l : List Int, (l.map PyData.int).map svOf = l.map SV.int := fun l => by rw [List.map_map]; rfl
 have core : ∀ kd : Str, (if xs.length % 2 = 0 then ("s" : Str) else "h") = kd → zQp w.params (xs.map .int) kd (fun r st' => ∃ x y led', (r = .ret x ∨ (r = .next ∧ x = .none)) ∧ SvT 0 st'.led x y ∧ SosT 0 st'.led (st'.led.take 0) led' ∧ k (.v y) { loc := st.loc, led := led' ++ st.led }) := by
  intro kd hkd
  refine ⟨rfl, rfl, by kernel_rfl, ?_⟩
  rw [zLp]
  have e6 : slD (xs.map PyData.int) none (some 6) = (xs.take 6).map .int := by
   rw [show (6 : Int) = ((6 : Nat) : Int) from rfl, zOj, List.map_take]
  rw [e6]
  refine ⟨(xs.take 6).map SV.int, .it true (.dat (.list ((xs.take 6).map .int))), by unfold srcT; dsimp only; rw [hmi], ?_⟩
  refine zLo w.params (xs.map .int) ((xs.take 6).map .int) _ (hmi _).symm _ (xs.take 6) 0 (.one [.str kd]) ?_ ?_
  ·show 1 + (xs.take 6).length ≤ 900
   rw [List.length_take]; lia
  ·rw [zBC, zON]
   have hl := zKF (xs.take 6) (.one [.str kd])
   have hl2 : ((xs.take 6).foldl (fun t x => zBI x t) (.one [.str kd])).len ≤ 1000 := by
    rw [List.length_take] at hl
    have : (TS.one [PyData.str kd]).len = 1 := rfl
    lia
   refine ⟨.obj 0, svOf (zEA xs), [], .inl rfl, ?_, .nil, hk⟩
   unfold zEA
   rw [hkd]
   exact .frz (zTY _ _ hl2)
 refine ⟨by rw [hm, sizeLine_eq]; lia, by decide, ?_⟩
 rw [hm]
 have e2 : ((xs.length : Int).fmod 2 == 0) = decide (xs.length % 2 = 0) := by
  have : (xs.length : Int).fmod 2 = ((xs.length % 2 : Nat) : Int) := by
   rw [Int.fmod_eq_emod_of_nonneg _ (by decide)]; rfl
  rw [this]
  by_cases h : xs.length % 2 = 0
  ·rw [h]; rfl
  ·rw [decide_eq_false h, beq_eq_false_iff_ne]; lia
 rw [e2]
 exact zHK (fun h => core _ (if_pos h)) fun h => core _ (if_neg h)
noncomputable def s795 : Stmt := stAt 35 B01
noncomputable def f795 : FnE := ⟨795, 2, ["tree", "lines"], [], zAE s795, zAB s795, "_law_written", .ref 794, ["texts", "lines"]⟩
theorem zTc (P : Params) : FnOk (KK P) f795 := FnOk.of (by kernel_rfl) (by kernel_rfl) ⟨_, _, _, _, (by kernel_rfl : (KK P).lookup 795 = some (o795 P)), rfl, rfl, fun _ _ => rfl, rfl, rfl, fun s vs X h => by
 obtain ⟨a, b, rfl⟩ := len2 h
 exact BindsTo.of_eq (by kernel_rfl)⟩
noncomputable def zBA : List (Str × NameKind) := (zAB s795).names
noncomputable def gWr : List (Str × Value) := [("isinstance", .builtin "isinstance"), ("str", .type "str"), ("range", .type "range"), ("len", .builtin "len"), ("join_shlex", .ref 751), ("_law_marked", .ref 790), ("_law_written", .ref 795)]
theorem zUd (P : Params) : ∀ p ∈ gWr, zDh (KK P) p :=
 zAA ⟨by kernel_rfl, .inr ⟨by kernel_rfl, by kernel_rfl, by kernel_rfl⟩⟩ <| zAA ⟨by kernel_rfl, .inr ⟨by kernel_rfl, by kernel_rfl, by kernel_rfl⟩⟩ <| zAA ⟨by kernel_rfl, .inr ⟨by kernel_rfl, by kernel_rfl, by kernel_rfl⟩⟩ <|
 zAA ⟨by kernel_rfl, .inr ⟨by kernel_rfl, by kernel_rfl, by kernel_rfl⟩⟩ <| zAA ⟨by kernel_rfl, .inl (by kernel_rfl)⟩ <| zAA ⟨by kernel_rfl, .inl (by kernel_rfl)⟩ <| zAA ⟨by kernel_rfl, .inl (by kernel_rfl)⟩ zAD
noncomputable abbrev cfWr (P : Params) (d : Nat) (rf : List SV → St → Kt → Prop) : Cf where
 K := KK P
 globs := gWr
 fns := []
 cls := []
 sps := [⟨795, 2, d, rf⟩, joinSp, markedSp]
noncomputable abbrev wrSt (t : SV) (ls : List SV) (more : List (Str × SV)) (c : SO) (l : List SO) : St := ⟨("texts", .obj 2) :: ("lines", .obj 3) :: ("tree", t) :: ("lines", .obj 1) :: more, .tab 746 :: .list ls :: c :: .cell (some (.obj 1)) :: l⟩
theorem zQb (P : Params) (d n : Nat) (rf : List SV → St → Kt → Prop) (t : Str) (ls : List SV) (k : Kt) : ev (cfWr P d rf) (n + 200) zBA (.sts (zAE s795)) (wrSt (.str t) ls [] (.cell none) []) k =
   ("str" = "str" ∧ ifT (!Fast.sEq t "") (("l" : Str).length + t.length ≤ sizeLine ∧ k (.ret (.str ("l" ++ t))) (wrSt (.str t) ls [] (.cell none) [])) (k (.ret (.str "")) (wrSt (.str t) ls [] (.cell none) []))) := by
  kernel_rfl
theorem zQZ (P : Params) (d n : Nat) (rf : List SV → St → Kt → Prop) (ds : List PyData) (ls : List SV) (k : Kt) : ev (cfWr P d rf) (n + 200) zBA (.sts (zAE s795)) (wrSt (.dat (.list ds)) ls [] (.cell none) []) k =
   ("str" = "str" ∧ ∃ y, idxP (ds.map svOf) 0 y ∧ ev (cfWr P d rf) (n + 198) zBA (.sts ((zAE s795).drop 2)) (wrSt (.dat (.list ds)) ls [("kind", y)] (.cell none) []) k) := by
  kernel_rfl
noncomputable def lcW : Expr := aVal (stAt 2 (zAE s795))
noncomputable def cnW : List (Str × NameKind) := zBE (lcSc lcW).names
noncomputable abbrev wrL0 (ls : List SV) (c : SO) : List SO := [.tab 746, .list ls, c, .cell (some (.obj 1))]
theorem zOI (P : Params) (d n : Nat) (rf : List SV → St → Kt → Prop) (ds : List PyData) (ls : List SV) (kd : Str) (k : Kt) : ev (cfWr P d rf) (n + 198) zBA (.sts ((zAE s795).drop 2)) (wrSt (.dat (.list ds)) ls [("kind", .str kd)] (.cell none) []) k =
   zBZ (zAN cnW (zAp lcW)) none (fun st k => ev (cfWr P d rf) (n + 196) cnW (.ex (zBG lcW)) st k) (.dat (.list (slD ds (some 1) none))) ((slD ds (some 1) none).map svOf) (.it true (.dat (.list (slD ds (some 1) none)))) 4 5 0 ((slD ds (some 1) none).map svOf)
     ⟨[("lines", .obj 3)], wrL0 ls (.cell none) ++ [.it true (.dat (.list (slD ds (some 1) none))) 0, .list []]⟩
     (fun stE => zAg [("texts", .obj 2), ("lines", .obj 3), ("tree", .dat (.list ds)), ("lines", .obj 1), ("kind", .str kd)] 4 5 stE fun y st₁ => stT zBA "texts" y st₁ fun st₂ => ev (cfWr P d rf) (n + 197) zBA (.sts ((zAE s795).drop 3)) st₂ k) := by
  kernel_rfl
theorem zSk (P : Params) (d n : Nat) (rf : List SV → St → Kt → Prop) (x : SV) (ls : List SV) (c : SO) (l : List SO) (K : Kt) (D : St → Prop) : zAN cnW (zAp lcW) x ⟨[("lines", .obj 3)], .tab 746 :: .list ls :: c :: .cell (some (.obj 1)) :: l⟩ (fun st₁ => zCo none st₁ fun c st₂ => ifT c (ev (cfWr P d rf) (n + 196) cnW (.ex (zBG lcW)) st₂ K) (D st₂)) =
   zDC (cfWr P d rf) (n + 195) (ev (cfWr P d rf) (n + 195)) 795 [x, .obj 1] ⟨[("lines", .obj 3), ("part", x)], .tab 746 :: .list ls :: c :: .cell (some (.obj 1)) :: l⟩ K := by
  kernel_rfl
noncomputable def ifH : Stmt := stAt 3 (zAE s795)
noncomputable def ifD : Stmt := stAt 4 (zAE s795)
noncomputable def ifS : Stmt := stAt 5 (zAE s795)
theorem wr_3 (P : Params) (d n : Nat) (rf : List SV → St → Kt → Prop) (t : SV) (ls : List SV) (c : SO) (kd : Str) (k : Kt) : ev (cfWr P d rf) (n + 197) zBA (.sts ((zAE s795).drop 3)) (wrSt t ls [("kind", .str kd)] c []) k =
   ifT (Fast.sEq kd "h") (ev (cfWr P d rf) (n + 195) zBA (.sts (zAV ifH)) (wrSt t ls [("kind", .str kd)] c []) (zDF (fun st k => ev (cfWr P d rf) (n + 196) zBA (.sts ((zAE s795).drop 4)) st k) k))
    (ifT (Fast.sEq kd "d") (ev (cfWr P d rf) (n + 194) zBA (.sts (zAV ifD)) (wrSt t ls [("kind", .str kd)] c []) (zDF (fun st k => ev (cfWr P d rf) (n + 195) zBA (.sts ((zAE s795).drop 5)) st k) k))
     (ifT (Fast.sEq kd "s") (ev (cfWr P d rf) (n + 193) zBA (.sts (zAV ifS)) (wrSt t ls [("kind", .str kd)] c []) (zDF (fun st k => ev (cfWr P d rf) (n + 194) zBA (.sts ((zAE s795).drop 6)) st k) k))
       (ev (cfWr P d rf) (n + 193) zBA (.sts (zDZ ifS)) (wrSt t ls [("kind", .str kd)] c []) (zDF (fun st k => ev (cfWr P d rf) (n + 194) zBA (.sts ((zAE s795).drop 6)) st k) k)))) := by
  kernel_rfl
noncomputable abbrev zBt (t : SV) (kd : Str) : List (Str × SV) := [("texts", .obj 2), ("lines", .obj 3), ("tree", t), ("lines", .obj 1), ("kind", .str kd)]
noncomputable abbrev wrC (ds : List PyData) : SO := .cell (some (.dat (.list ds)))
noncomputable def lcH : Expr := binR (arg0 (rVal (stAt 0 (zAV ifH))))
noncomputable def cnHh : List (Str × NameKind) := zBE (lcSc lcH).names
noncomputable def lcD : Expr := binR (arg0 (rVal (stAt 0 (zAV ifD))))
noncomputable def cnD : List (Str × NameKind) := zBE (lcSc lcD).names
noncomputable def lcE : Expr := binR (aVal (stAt 0 (zDZ ifS)))
noncomputable def cnE : List (Str × NameKind) := zBE (lcSc lcE).names
noncomputable def zFN (sep : Str) (k : Kt) (st : St) (v : SV) : Prop := zAt st v fun ds => ∃ ts : List Str, ds = ts.map .str ∧ JoinOk sep ts = true ∧ (Txt.join sep ts).length ≤ sizeLine ∧ k (.ret (.str (Txt.join sep ts))) st
noncomputable def addL (st : St) (a b : SV) (k : SV → St → Prop) : Prop := zAt st a fun ds => zAt st b fun es => ds.length + es.length ≤ sizeLine ∧ k (.dat (.list (ds ++ es))) st
theorem wr_h (P : Params) (d n : Nat) (rf : List SV → St → Kt → Prop) (t : SV) (ls : List SV) (ts : List PyData) (kd : Str) (k : Kt) : ev (cfWr P d rf) (n + 195) zBA (.sts (zAV ifH)) (wrSt t ls [("kind", .str kd)] (wrC ts) []) k =
   zBZ (zAN cnHh (zAp lcH)) none (fun st k => ev (cfWr P d rf) (n + 189) cnHh (.ex (zBG lcH)) st k) (.dat (.list ts)) (ts.map svOf) (.it true (.dat (.list ts))) 5 6 0 (ts.map svOf)
     ⟨[], (wrL0 ls (wrC ts) ++ [.list [.str "h"]]) ++ [.it true (.dat (.list ts)) 0, .list []]⟩
     (fun stE => zAg (zBt t kd) 5 6 stE fun v st₁ => addL st₁ (.obj 4) v fun z st₂ => zFN ", " k st₂ z) := by
  kernel_rfl
theorem wr_d (P : Params) (d n : Nat) (rf : List SV → St → Kt → Prop) (t : SV) (ls : List SV) (ts : List PyData) (kd : Str) (k : Kt) : ev (cfWr P d rf) (n + 194) zBA (.sts (zAV ifD)) (wrSt t ls [("kind", .str kd)] (wrC ts) []) k =
   ((ts.map svOf).length ≤ sizeLine ∧ (0 : Int) ≤ (ts.map svOf).length ∧ (((ts.map svOf).length : Int)).toNat ≤ sizeLine ∧
   zBZ (zAN cnD (zAp lcD)) none (fun st k => ev (cfWr P d rf) (n + 188) cnD (.ex (zBG lcD)) st k) (.obj 5) ((List.range (((ts.map svOf).length : Int)).toNat).map fun (j : Nat) => SV.int (j : Int)) (.itr (((ts.map svOf).length : Int)).toNat) 6 7 0 ((List.range (((ts.map svOf).length : Int)).toNat).map fun (j : Nat) => SV.int (j : Int))
     ⟨[("texts", .obj 2)], (wrL0 ls (wrC ts) ++ [.list [.str "d=d"], .rng (((ts.map svOf).length : Int)).toNat]) ++ [.itr (((ts.map svOf).length : Int)).toNat 0, .list []]⟩
     (fun stE => zAg (zBt t kd) 6 7 stE fun v st₁ => addL st₁ (.obj 4) v fun z st₂ => zFN ", " k st₂ z)) := by
  kernel_rfl
theorem wr_s (P : Params) (d n : Nat) (rf : List SV → St → Kt → Prop) (t : SV) (ls : List SV) (ts : List PyData) (kd : Str) (k : Kt) : ev (cfWr P d rf) (n + 193) zBA (.sts (zAV ifS)) (wrSt t ls [("kind", .str kd)] (wrC ts) []) k =
   (1 ≤ sizeLine ∧ 1 + ts.length ≤ sizeLine ∧ k .next ⟨zBt t kd ++ [(("words" : Str), .dat (.list (.str "s" :: ts)))], wrL0 ls (wrC ts) ++ [.list [.str "s"]]⟩) := by
  kernel_rfl
theorem wr_e (P : Params) (d n : Nat) (rf : List SV → St → Kt → Prop) (t : SV) (ls : List SV) (ts : List PyData) (kd : Str) (k : Kt) : ev (cfWr P d rf) (n + 193) zBA (.sts (zDZ ifS)) (wrSt t ls [("kind", .str kd)] (wrC ts) []) k =
   ((ts.map svOf).length ≤ sizeLine ∧ (0 : Int) ≤ (ts.map svOf).length ∧ (((ts.map svOf).length : Int)).toNat ≤ sizeLine ∧
   zBZ (zAN cnE (zAp lcE)) none (fun st k => ev (cfWr P d rf) (n + 189) cnE (.ex (zBG lcE)) st k) (.obj 5) ((List.range (((ts.map svOf).length : Int)).toNat).map fun (j : Nat) => SV.int (j : Int)) (.itr (((ts.map svOf).length : Int)).toNat) 6 7 0 ((List.range (((ts.map svOf).length : Int)).toNat).map fun (j : Nat) => SV.int (j : Int))
     ⟨[("texts", .obj 2)], (wrL0 ls (wrC ts) ++ [.list [.str "e=e"], .rng (((ts.map svOf).length : Int)).toNat]) ++ [.itr (((ts.map svOf).length : Int)).toNat 0, .list []]⟩
     (fun stE => zAg (zBt t kd) 6 7 stE fun v st₁ => addL st₁ (.obj 4) v fun z st₂ => nxt k .next { st₂ with loc := put "words" z st₂.loc })) := by
  kernel_rfl
theorem zQc (P : Params) (d n : Nat) (rf : List SV → St → Kt → Prop) (x : Str) (l : List SO) (K : Kt) (D : St → Prop) : zAN cnHh (zAp lcH) (.str x) ⟨[], l⟩ (fun st₁ => zCo none st₁ fun c st₂ => ifT c (ev (cfWr P d rf) (n + 189) cnHh (.ex (zBG lcH)) st₂ K) (D st₂)) =
   (x.length ≤ 1000000 ∧ K (.v (.str (tx (zAm x.cps.toList)))) ⟨[("text", .str x)], l⟩) := by
  kernel_rfl
noncomputable def strI (i : Int) : Str := Str.ofString (toString i)
theorem zQi (P : Params) (d n : Nat) (rf : List SV → St → Kt → Prop) (i : Int) (a b : SO) (ts : List PyData) (l : List SO) (K : Kt) (D : St → Prop) : zAN cnD (zAp lcD) (.int i) ⟨[("texts", .obj 2)], a :: b :: wrC ts :: l⟩ (fun st₁ => zCo none st₁ fun c st₂ => ifT c (ev (cfWr P d rf) (n + 188) cnD (.ex (zBG lcD)) st₂ K) (D st₂)) =
   (i.natAbs < 4611686018427387904 ∧ (strI i).length ≤ sizeLine ∧ (("k" : Str).length + (strI i).length ≤ sizeLine ∧ (("k" ++ strI i).length + ("=" : Str).length ≤ sizeLine ∧ ∃ y, idxP (ts.map svOf) i y ∧ zJF [y] ⟨[("texts", .obj 2), ("n", .int i)], a :: b :: wrC ts :: l⟩ (fun r st => match r with
     | .v y => addT (.str ("k" ++ strI i ++ "=")) y fun z => K (.v z) st
     | _ => False)))) := by
  kernel_rfl
noncomputable def addV (st : St) (x y : SV) (k : SV → Prop) : Prop := match zJN x with
 | true => zAt st x fun ds => zAt st y fun es => ds.length + es.length ≤ sizeLine ∧ k (.dat (.list (ds ++ es)))
 | false => addT x y k
theorem zQf (P : Params) (d n : Nat) (rf : List SV → St → Kt → Prop) (i : Int) (a b : SO) (ts : List PyData) (l : List SO) (K : Kt) (D : St → Prop) : zAN cnE (zAp lcE) (.int i) ⟨[("texts", .obj 2)], a :: b :: wrC ts :: l⟩ (fun st₁ => zCo none st₁ fun c st₂ => ifT c (ev (cfWr P d rf) (n + 189) cnE (.ex (zBG lcE)) st₂ K) (D st₂)) =
   (i.natAbs < 4611686018427387904 ∧ (strI i).length ≤ sizeLine ∧ (("k" : Str).length + (strI i).length ≤ sizeLine ∧ (("k" ++ strI i).length + ("=\"" : Str).length ≤ sizeLine ∧ ∃ y, idxP (ts.map svOf) i y ∧ addT (.str ("k" ++ strI i ++ "=\"")) y fun z =>
     addV ⟨[("texts", .obj 2), ("n", .int i)], a :: b :: wrC ts :: l⟩ z (.str "\"") fun z => K (.v z) ⟨[("texts", .obj 2), ("n", .int i)], a :: b :: wrC ts :: l⟩))) := by
  kernel_rfl
theorem zSj (P : Params) (d n : Nat) (rf : List SV → St → Kt → Prop) (t : SV) (kd : Str) (ws : PyData) (led : List SO) (k : Kt) : ev (cfWr P d rf) (n + 194) zBA (.sts ((zAE s795).drop 6)) ⟨zBt t kd ++ [(("words" : Str), .dat ws)], led⟩ k =
   zSG [.dat ws] ⟨zBt t kd ++ [(("words" : Str), .dat ws)], led⟩ (fun r st₁ => match r with
     | .v y => ev (cfWr P d rf) (n + 193) zBA (.sts ((zAE s795).drop 7)) { st₁ with loc := put "line" y st₁.loc } k
     | _ => False) := by
  kernel_rfl
theorem zSi (P : Params) (d n : Nat) (rf : List SV → St → Kt → Prop) (t : SV) (kd : Str) (ws : PyData) (line : SV) (ls : List SV) (c : SO) (l : List SO) (k : Kt) : ev (cfWr P d rf) (n + 193) zBA (.sts ((zAE s795).drop 7)) ⟨zBt t kd ++ [(("words" : Str), .dat ws), ("line", line)], .tab 746 :: .list ls :: c :: .cell (some (.obj 1)) :: l⟩ k =
   (ls.length ≤ sizeLine ∧ k (.ret line) ⟨zBt t kd ++ [(("words" : Str), .dat ws), ("line", line)], .tab 746 :: .list (ls ++ [.obj (.tab 746 :: .list ls :: c :: .cell (some (.obj 1)) :: l).length]) :: c :: .cell (some (.obj 1)) :: (l ++ [.tup [.dat ws, line]])⟩) := by
  kernel_rfl
noncomputable abbrev Ln := List (List Nat) × List Nat
noncomputable def zCR (l : Ln) : PyData := .tuple [.list (l.1.map fun x => .str (tx x)), .str (tx l.2)]
noncomputable def zAJ (l : List (List Nat)) : List PyData := l.map fun x => .str (tx x)
noncomputable def zAi (f : List Nat → List Nat) (ts : List (List Nat)) : List (List Nat) := (List.range ts.length).map fun i => 107 :: (48 + i) :: 61 :: f (ts.getD i [])
noncomputable def quo (t : List Nat) : List Nat := 34 :: (t ++ [34])
noncomputable def zHG : PyData → List Nat
 | .str s => if s.cps.toList = [] then [] else 108 :: s.cps.toList
 | _ => []
noncomputable def wr : Nat → PyData → List Nat × List Ln
 | 0, d => (zHG d, [])
 | m + 1, d => match d with
  | .list (.str k :: kids) =>
   if Fast.sEq k "h" then (zBF [44, 32] ([104] :: (kids.map fun x => (wr m x).1).map zAm), kids.flatMap fun x => (wr m x).2)
   else if Fast.sEq k "d" then (zBF [44, 32] ([100, 61, 100] :: zAi zAm (kids.map fun x => (wr m x).1)), kids.flatMap fun x => (wr m x).2)
   else if Fast.sEq k "s" then (zAc ([115] :: kids.map fun x => (wr m x).1), (kids.flatMap fun x => (wr m x).2) ++ [([115] :: kids.map fun x => (wr m x).1, zAc ([115] :: kids.map fun x => (wr m x).1))])
   else (zAc ([101, 61, 101] :: zAi quo (kids.map fun x => (wr m x).1)), (kids.flatMap fun x => (wr m x).2) ++ [([101, 61, 101] :: zAi quo (kids.map fun x => (wr m x).1), zAc ([101, 61, 101] :: zAi quo (kids.map fun x => (wr m x).1)))])
  | d => (zHG d, [])
theorem zBj : ∀ ws : List (List Nat), zAc ws = zBF [32] (ws.map zAT)
 | [] => rfl
 | [x] => rfl
 | x :: y :: r => by
  show zAT x ++ 32 :: zAc (y :: r) = zAT x ++ ([32] ++ zBF [32] ((y :: r).map zAT))
  rw [zBj (y :: r)]; rfl
theorem zBg (x : List Nat) : (zAT x).length ≤ 5 * x.length + 2 := by
 unfold zAT
 split
 ·lia
 ·have := zEd 39 qm 5 (by decide) (by decide) x
  simp only [List.length_cons, List.length_append, List.length_nil]
  lia
theorem zCY (x : List Nat) : (zAm x).length ≤ 2 * x.length + 2 := by
 have := zHR x
 unfold zAm
 simp only [List.length_cons, List.length_append, List.length_nil]
 lia
theorem zCr (f : List Nat → Nat) (B : Nat) : ∀ l : List (List Nat), (∀ x ∈ l, f x ≤ B) → (l.map f).sum ≤ l.length * B
 | [], _ => Nat.zero_le _
 | x :: r, h => by
  have h1 := h x (.head _)
  have h2 := zCr f B r fun y hy => h y (.tail _ hy)
  rw [List.map_cons, List.sum_cons, List.length_cons, Nat.add_mul]
  lia
theorem zAr (f : List Nat → List Nat) (ts : List (List Nat)) : (zAi f ts).length = ts.length := by simp [zAi]
theorem zBx {f : List Nat → List Nat} {ts : List (List Nat)} {x : List Nat} (h : x ∈ zAi f ts) : ∃ i t, i < ts.length ∧ t ∈ ts ∧ x = 107 :: (48 + i) :: 61 :: f t := by
 unfold zAi at h
 obtain ⟨i, hi, rfl⟩ := List.mem_map.mp h
 rw [List.mem_range] at hi
 refine ⟨i, ts[i], hi, List.getElem_mem hi, ?_⟩
 have : ts.getD i [] = ts[i] := by simp [hi]
 rw [this]
theorem zDk {i : Nat} (h : i < 10) : strI (i : Int) = tx [48 + i] := by
 have key : ∀ n : Fin 10, strI (n.1 : Int) = tx [48 + n.1] := by decide +kernel
 exact key ⟨i, h⟩
theorem zGT (l : List (List Nat)) {k : Kt} {st : St} (hl : (l.map List.length).sum + l.length * 2 ≤ 10000000) (hk : k (.ret (.str (tx (zBF [44, 32] l)))) st) : zFN ", " k st (.dat (.list (zAJ l))) := by
 have e : (", " : Str) = tx [44, 32] := by rfl
 have hj : Txt.join ", " (l.map tx) = tx (zBF [44, 32] l) := by rw [zHX, e, zHI]
 refine ⟨l.map tx, by unfold zAJ; rw [List.map_map]; rfl, zCZ ?_, ?_, ?_⟩
 ·rw [zHF, List.length_map]
  have : (", " : Str).length = 2 := by rfl
  rw [this]; lia
 ·rw [hj, zAF, sizeLine_eq]
  have := zBk [44, 32] l
  rw [show ([44, 32] : List Nat).length = 2 from rfl] at this
  lia
 ·rw [hj]; exact hk
theorem zBV (l : List Nat) : (tx l).cps.toList = l := by simp [tx]
theorem zNT {xs : List SV} {i : Nat} {x : SV} (h : xs[i]? = some x) (hl : xs.length ≤ 1000000) : idxP xs (i : Int) x := by
 have hi : i < xs.length := (List.getElem?_eq_some_iff.mp h).1
 refine ⟨i, ?_, h, by lia, by lia⟩
 unfold seqIndex?
 simp
 lia
theorem sosW {n : Nat} {led : List SO} (lsD : List PyData) (c : SO) (hc : SoT n led c c) (hn : 2 ≤ n) : SosT n led (wrL0 (lsD.map svOf) c) (wrL0 (lsD.map svOf) c) :=
 .cons .tab (.cons (.list (zAx _ _ _)) (.cons hc (.cons (.cell (.keep (by lia))) .nil)))
theorem zDS {n : Nat} (ds : List PyData) (kd : Str) (h : 4 ≤ n) : okF n (zBt (.dat (.list ds)) kd) := ⟨by show 2 < n; lia, by show 3 < n; lia, trivial, by show 1 < n; lia, trivial, trivial⟩
theorem zBu (ts : List (List Nat)) (i : Nat) : ((zAJ ts).map svOf)[i]? = (ts[i]?).map fun t => SV.str (tx t) := by
 unfold zAJ
 rw [List.map_map, List.getElem?_map]; rfl
theorem zDG (ts : List (List Nat)) : (zAJ ts).length = ts.length := by simp [zAJ]
theorem zAL (ts : List (List Nat)) : ((zAJ ts).map svOf).length = ts.length := by simp [zAJ]
theorem zBb {α β : Type} (l : List α) (f : α → β) : (List.range l.length).filterMap (fun i => (l[i]?).map f) = l.map f := by
 induction l with
 | nil => rfl
 | cons c r ih =>
  rw [List.length_cons, List.range_succ_eq_map, List.filterMap_cons, List.filterMap_map]
  simp only [List.getElem?_cons_zero, Option.map_some, List.map_cons]
  congr 1
theorem zKG {α β : Type} {f g : α → Option β} : ∀ {l : List α}, (∀ x ∈ l, f x = g x) → l.filterMap f = l.filterMap g
 | [], _ => rfl
 | x :: r, h => by
  rw [List.filterMap_cons, List.filterMap_cons, h x (.head _), zKG fun y hy => h y (.tail _ hy)]
theorem zHt (ts : List (List Nat)) (f : Nat → List Nat → PyData) : (List.range ts.length).filterMap (fun i => (ts[i]?).map (f i)) = (List.range ts.length).map fun i => f i (ts.getD i []) := by
 rw [← List.filterMap_eq_map]
 refine zKG fun i hi => ?_
 rw [List.mem_range] at hi
 rw [List.getElem?_eq_getElem hi]
 simp [hi]
theorem zBc (f : List Nat → List Nat) (ts : List (List Nat)) : (List.range ts.length).filterMap (fun i => (ts[i]?).map fun t => PyData.str (tx (f t))) = zAJ (ts.map f) := by
 rw [zBb]
 unfold zAJ; rw [List.map_map]; rfl
theorem zGR (f : List Nat → List Nat) (ts : List (List Nat)) : (List.range ts.length).filterMap (fun i => (ts[i]?).map fun t => PyData.str (tx (107 :: (48 + i) :: 61 :: f t))) = zAJ (zAi f ts) := by
 rw [zHt ts fun i t => PyData.str (tx (107 :: (48 + i) :: 61 :: f t))]
 unfold zAJ zAi
 rw [List.map_map]; rfl
section
variable {P : Params} {d n : Nat} {rf : List SV → St → Kt → Prop} {ds lsD : List PyData} {ts : List (List Nat)} {kd : Str} {k : Kt}
theorem zJW {l0 : Str} {loc : List (Str × SV)} {l : List SO} {es : List (List Nat)} {k : SV → St → Prop} (e : List Nat) (he : l0 = tx e) (hl : es.length ≤ 1000) (hs : l[4]? = some (.list [.str l0])) (hk : k (.dat (.list (zAJ (e :: es)))) ⟨loc, l⟩) : addL ⟨loc, l⟩ (.obj 4) (.dat (.list (zAJ es))) k := by
 unfold addL zAt
 dsimp only
 rw [hs]
 refine ⟨by rw [sizeLine_eq]; show 1 ≤ _; lia, ?_⟩
 refine ⟨by rw [zDG, sizeLine_eq]; show 1 + _ ≤ _; lia, ?_⟩
 subst he
 exact hk
theorem zQd (hn : ts.length ≤ 10) (hb : ∀ t ∈ ts, t.length ≤ 100000) (hk : k (.ret (.str (tx (zBF [44, 32] ([104] :: ts.map zAm))))) ⟨zBt (.dat (.list ds)) kd, wrL0 (lsD.map svOf) (wrC (zAJ ts)) ++ [.list [.str "h"]]⟩) :
  ev (cfWr P d rf) (n + 195) zBA (.sts (zAV ifH)) (wrSt (.dat (.list ds)) (lsD.map svOf) [("kind", .str kd)] (wrC (zAJ ts)) []) k := by
 rw [wr_h]
 have key := zBR (bnd := zAN cnHh (zAp lcH)) (test := none) (elt := fun st k => ev (cfWr P d rf) (n + 189) cnHh (.ex (zBG lcH)) st k) (src := .dat (.list (zAJ ts))) (all := (zAJ ts).map svOf) (slot := .it true (.dat (.list (zAJ ts)))) (fl := []) (pre := wrL0 (lsD.map svOf) (wrC (zAJ ts)) ++ [.list [.str "h"]])
  (zBt (.dat (.list ds)) kd) (fun v st₁ => addL st₁ (.obj 4) v fun z st₂ => zFN ", " k st₂ z) (fun i => (ts[i]?).map fun t => PyData.str (tx (zAm t)))
  (fun n led h => zCi (sosW lsD _ (.cell (.same trivial)) (by have : (5 : Nat) ≤ n := h; lia)) (.cons (.list (.cons (.same (x := .str "h") trivial) .nil)) .nil)) trivial (zDS ds kd (by show 4 ≤ 5; lia)) (fun _ _ _ _ => .it (.same trivial)) (fun a b => rfl)
  (by rw [zAL, sizeLine_eq]; lia) (fun i x zs K Dd hx hK' hD => ?_) ?_
 ·exact key
 ·rw [zBu, Option.map_eq_some_iff] at hx
  obtain ⟨t, ht, rfl⟩ := hx
  have hm := List.mem_of_getElem? ht
  show zAN cnHh (zAp lcH) (.str (tx t)) ⟨[], _⟩ _
  rw [zQc]
  refine ⟨by rw [zAF]; have := hb t hm; lia, ?_⟩
  have hs := hK' (PyData.str (tx (zAm t))) (by rw [ht]; rfl) [("text", .str (tx t))] []
  rw [zBV]
  exact hs
 ·rw [zAL, zBc]
  refine zJW (es := ts.map zAm) [104] (by rfl) (by rw [List.length_map]; lia) rfl ?_
  refine zGT _ ?_ hk
  have h1 := zCr List.length 200002 (ts.map zAm) fun x hx => by
   obtain ⟨t, ht, rfl⟩ := List.mem_map.mp hx
   have := zCY t; have := hb t ht; lia
  rw [List.length_map] at h1
  simp only [List.map_cons, List.sum_cons, List.length_cons, List.length_map, List.length_nil] at h1 ⊢
  have : ts.length * 200002 ≤ 10 * 200002 := Nat.mul_le_mul_right _ hn
  lia
theorem zQj (hn : ts.length ≤ 10) (hb : ∀ t ∈ ts, t.length ≤ 100000) (hk : ∀ l, k (.ret (.str (tx (zBF [44, 32] ([100, 61, 100] :: zAi zAm ts))))) ⟨zBt (.dat (.list ds)) kd, wrL0 (lsD.map svOf) (wrC (zAJ ts)) ++ l⟩) :
  ev (cfWr P d rf) (n + 194) zBA (.sts (zAV ifD)) (wrSt (.dat (.list ds)) (lsD.map svOf) [("kind", .str kd)] (wrC (zAJ ts)) []) k := by
 rw [wr_d]
 have eN : (((zAJ ts).map svOf).length : Int).toNat = ts.length := by rw [zAL]; rfl
 refine ⟨by rw [zAL, sizeLine_eq]; lia, by lia, by rw [eN, sizeLine_eq]; lia, ?_⟩
 rw [eN]
 have key := zBR (bnd := zAN cnD (zAp lcD)) (test := none) (elt := fun st k => ev (cfWr P d rf) (n + 188) cnD (.ex (zBG lcD)) st k) (src := .obj 5) (all := (List.range ts.length).map fun (j : Nat) => SV.int (j : Int)) (slot := .itr ts.length) (fl := [("texts", .obj 2)]) (pre := wrL0 (lsD.map svOf) (wrC (zAJ ts)) ++ [.list [.str "d=d"], .rng ts.length])
  (zBt (.dat (.list ds)) kd) (fun v st₁ => addL st₁ (.obj 4) v fun z st₂ => zFN ", " k st₂ z) (fun i => (ts[i]?).map fun t => PyData.str (tx (107 :: (48 + i) :: 61 :: zAm t)))
  (fun n led h => zCi (sosW lsD _ (.cell (.same trivial)) (by have : (6 : Nat) ≤ n := h; lia)) (.cons (.list (.cons (.same (x := .str "d=d") trivial) .nil)) (.cons .rng .nil))) ⟨by show 2 < 6; lia, trivial⟩ (zDS ds kd (by show 4 ≤ 6; lia)) (fun _ _ _ _ => .itr) (fun a b => rfl)
  (by rw [List.length_map, List.length_range, sizeLine_eq]; lia) (fun i x zs K Dd hx hK' hD => ?_) ?_
 ·exact key
 ·rw [List.getElem?_map, Option.map_eq_some_iff] at hx
  obtain ⟨j, hj, rfl⟩ := hx
  obtain ⟨hj1, hj2⟩ := List.getElem?_eq_some_iff.mp hj
  rw [List.getElem_range] at hj2
  rw [List.length_range] at hj1
  subst hj2
  have hi : ts[i]? = some ts[i] := List.getElem?_eq_getElem hj1
  have hm : ts[i] ∈ ts := List.getElem_mem hj1
  have hbi := hb _ hm
  show zAN cnD (zAp lcD) (.int i) ⟨[("texts", .obj 2)], .tab 746 :: .list (lsD.map svOf) :: wrC (zAJ ts) :: _⟩ _
  rw [zQi, zDk (by lia : i < 10)]
  have e1 : ("k" : Str) = tx [107] := by rfl
  have e2 : ("=" : Str) = tx [61] := by rfl
  rw [e1, e2, zAP, zAP]
  refine ⟨by lia, by rw [zAF, sizeLine_eq]; show 1 ≤ _; lia, by rw [zAF, zAF, sizeLine_eq]; show 1 + 1 ≤ _; lia, by rw [zAF, zAF, sizeLine_eq]; show 2 + 1 ≤ _; lia, .str (tx ts[i]), zNT (by rw [zBu, hi]; rfl) (by rw [zAL]; lia), ?_⟩
  refine ⟨by rw [zAF]; lia, ?_⟩
  rw [zBV]
  have hml := zCY ts[i]
  refine ⟨by rw [zAF, zAF, sizeLine_eq]; show 3 + _ ≤ _; lia, ?_⟩
  rw [zAP]
  exact hK' (PyData.str (tx (107 :: (48 + i) :: 61 :: zAm ts[i]))) (by rw [hi]; rfl) [("n", .int i)] []
 ·rw [List.length_map, List.length_range, zGR]
  refine zJW (es := zAi zAm ts) [100, 61, 100] (by rfl) (by rw [zAr]; lia) rfl ?_
  refine zGT _ ?_ (hk _)
  have h1 := zCr List.length 200010 (zAi zAm ts) fun x hx => by
   obtain ⟨i, t, hi, ht, rfl⟩ := zBx hx
   have := zCY t; have := hb t ht
   simp only [List.length_cons]; lia
  rw [zAr] at h1
  simp only [List.map_cons, List.sum_cons, List.length_cons, zAr, List.length_nil] at h1 ⊢
  have : ts.length * 200010 ≤ 10 * 200010 := Nat.mul_le_mul_right _ hn
  lia
theorem zQX (hn : ts.length ≤ 10) (hk : ∀ l, k .next ⟨zBt (.dat (.list ds)) kd ++ [(("words" : Str), .dat (.list (zAJ ([115] :: ts))))], wrL0 (lsD.map svOf) (wrC (zAJ ts)) ++ l⟩) :
  ev (cfWr P d rf) (n + 193) zBA (.sts (zAV ifS)) (wrSt (.dat (.list ds)) (lsD.map svOf) [("kind", .str kd)] (wrC (zAJ ts)) []) k := by
 rw [wr_s]
 exact ⟨by rw [sizeLine_eq]; lia, by rw [zDG, sizeLine_eq]; lia, hk _⟩
theorem zQg (hn : ts.length ≤ 10) (hb : ∀ t ∈ ts, t.length ≤ 100000) (hk : ∀ l, k .next ⟨zBt (.dat (.list ds)) kd ++ [(("words" : Str), .dat (.list (zAJ ([101, 61, 101] :: zAi quo ts))))], wrL0 (lsD.map svOf) (wrC (zAJ ts)) ++ l⟩) :
  ev (cfWr P d rf) (n + 193) zBA (.sts (zDZ ifS)) (wrSt (.dat (.list ds)) (lsD.map svOf) [("kind", .str kd)] (wrC (zAJ ts)) []) k := by
 rw [wr_e]
 have eN : (((zAJ ts).map svOf).length : Int).toNat = ts.length := by rw [zAL]; rfl
 refine ⟨by rw [zAL, sizeLine_eq]; lia, by lia, by rw [eN, sizeLine_eq]; lia, ?_⟩
 rw [eN]
 have key := zBR (bnd := zAN cnE (zAp lcE)) (test := none) (elt := fun st k => ev (cfWr P d rf) (n + 189) cnE (.ex (zBG lcE)) st k) (src := .obj 5) (all := (List.range ts.length).map fun (j : Nat) => SV.int (j : Int)) (slot := .itr ts.length) (fl := [("texts", .obj 2)]) (pre := wrL0 (lsD.map svOf) (wrC (zAJ ts)) ++ [.list [.str "e=e"], .rng ts.length])
  (zBt (.dat (.list ds)) kd) (fun v st₁ => addL st₁ (.obj 4) v fun z st₂ => nxt k .next { st₂ with loc := put "words" z st₂.loc }) (fun i => (ts[i]?).map fun t => PyData.str (tx (107 :: (48 + i) :: 61 :: quo t)))
  (fun n led h => zCi (sosW lsD _ (.cell (.same trivial)) (by have : (6 : Nat) ≤ n := h; lia)) (.cons (.list (.cons (.same (x := .str "e=e") trivial) .nil)) (.cons .rng .nil))) ⟨by show 2 < 6; lia, trivial⟩ (zDS ds kd (by show 4 ≤ 6; lia)) (fun _ _ _ _ => .itr) (fun a b => rfl)
  (by rw [List.length_map, List.length_range, sizeLine_eq]; lia) (fun i x zs K Dd hx hK' hD => ?_) ?_
 ·exact key
 ·rw [List.getElem?_map, Option.map_eq_some_iff] at hx
  obtain ⟨j, hj, rfl⟩ := hx
  obtain ⟨hj1, hj2⟩ := List.getElem?_eq_some_iff.mp hj
  rw [List.getElem_range] at hj2
  rw [List.length_range] at hj1
  subst hj2
  have hi : ts[i]? = some ts[i] := List.getElem?_eq_getElem hj1
  have hm : ts[i] ∈ ts := List.getElem_mem hj1
  have hbi := hb _ hm
  show zAN cnE (zAp lcE) (.int i) ⟨[("texts", .obj 2)], .tab 746 :: .list (lsD.map svOf) :: wrC (zAJ ts) :: _⟩ _
  rw [zQf, zDk (by lia : i < 10)]
  have e1 : ("k" : Str) = tx [107] := by rfl
  have e2 : ("=\"" : Str) = tx [61, 34] := by rfl
  have e3 : ("\"" : Str) = tx [34] := by rfl
  rw [e1, e2, e3, zAP, zAP]
  refine ⟨by lia, by rw [zAF, sizeLine_eq]; show 1 ≤ _; lia, by rw [zAF, zAF, sizeLine_eq]; show 1 + 1 ≤ _; lia, by rw [zAF, zAF, sizeLine_eq]; show 2 + 2 ≤ _; lia, .str (tx ts[i]), zNT (by rw [zBu, hi]; rfl) (by rw [zAL]; lia), ?_⟩
  refine ⟨by rw [zAF, zAF, sizeLine_eq]; show 4 + _ ≤ _; lia, ?_⟩
  rw [zAP]
  refine ⟨by rw [zAF, zAF, sizeLine_eq, List.length_append]; show 4 + _ + 1 ≤ _; lia, ?_⟩
  rw [zAP]
  have hs := hK' (PyData.str (tx (107 :: (48 + i) :: 61 :: quo ts[i]))) (by rw [hi]; rfl) [("n", .int i)] []
  have e4 : [107] ++ [48 + i] ++ [61, 34] ++ ts[i] ++ [34] = 107 :: (48 + i) :: 61 :: quo ts[i] := by simp [quo]
  rw [e4]
  exact hs
 ·rw [List.length_map, List.length_range, zGR]
  exact zJW (es := zAi quo ts) [101, 61, 101] (by rfl) (by rw [zAr]; lia) rfl (hk _)
end
noncomputable def zDg (d : PyData) : Prop := ∃ t : List Nat, d = .str (tx t) ∧ t.length ≤ 2 ∧ ∀ c ∈ t, c ∈ alpha.cps.toList
noncomputable def zAs : Nat → PyData → Prop
 | 0, d => zDg d
 | m + 1, d => zDg d ∨ ∃ k kids, d = .list (.str k :: kids) ∧ (k = "s" ∨ k = "h" ∨ k = "e" ∨ k = "d") ∧ kids.length ≤ 6 ∧ ∀ x ∈ kids, zAs m x
noncomputable def bndT : Nat → Nat
 | 0 => 3
 | m + 1 => 30 * bndT m + 200
theorem zCg : ∀ {m n : Nat}, m ≤ n → bndT m ≤ bndT n
 | m, 0, h => by rw [Nat.le_zero.mp h]; exact Nat.le_refl _
 | m, n + 1, h => by
  rcases Nat.lt_or_ge m (n + 1) with q | q
  ·have := zCg (Nat.le_of_lt_succ q)
   show bndT m ≤ 30 * bndT n + 200
   lia
  ·rw [Nat.le_antisymm h q]; exact Nat.le_refl _
theorem zBU (m : Nat) {d : PyData} {s : Str} (h : d = .str s) : wr m d = (zHG d, []) := by
 subst h
 cases m <;> rfl
theorem zIB {d : PyData} (h : zDg d) : (zHG d).length ≤ 3 := by
 obtain ⟨t, rfl, h, _⟩ := h
 show (if (tx t).cps.toList = [] then [] else 108 :: (tx t).cps.toList).length ≤ 3
 rw [zBV]
 split
 ·exact Nat.zero_le _
 ·rw [List.length_cons]; lia
theorem zCD (m : Nat) (k : Str) (kids : List PyData) : wr (m + 1) (.list (.str k :: kids)) =
   (if Fast.sEq k "h" then (zBF [44, 32] ([104] :: (kids.map fun x => (wr m x).1).map zAm), kids.flatMap fun x => (wr m x).2)
      else if Fast.sEq k "d" then (zBF [44, 32] ([100, 61, 100] :: zAi zAm (kids.map fun x => (wr m x).1)), kids.flatMap fun x => (wr m x).2)
      else if Fast.sEq k "s" then (zAc ([115] :: kids.map fun x => (wr m x).1), (kids.flatMap fun x => (wr m x).2) ++ [([115] :: kids.map fun x => (wr m x).1, zAc ([115] :: kids.map fun x => (wr m x).1))])
      else (zAc ([101, 61, 101] :: zAi quo (kids.map fun x => (wr m x).1)), (kids.flatMap fun x => (wr m x).2) ++ [([101, 61, 101] :: zAi quo (kids.map fun x => (wr m x).1), zAc ([101, 61, 101] :: zAi quo (kids.map fun x => (wr m x).1)))])) := rfl
theorem zFJ (B : Nat) (ws : List (List Nat)) (h : ∀ x ∈ ws, x.length ≤ B) : (zAc ws).length ≤ ws.length * (5 * B + 2) + ws.length := by
 rw [zBj]
 have h1 := zBk [32] (ws.map zAT)
 have h2 := zCr (fun x => (zAT x).length) (5 * B + 2) ws fun x hx => by
  have := zBg x; have := h x hx; lia
 rw [List.map_map] at h1
 have e : List.length ∘ zAT = fun x => (zAT x).length := rfl
 rw [e, List.length_map] at h1
 have e2 : ([32] : List Nat).length = 1 := rfl
 rw [e2, Nat.mul_one] at h1
 lia
theorem zHW : ∀ (m : Nat) {d : PyData}, zAs m d → (wr m d).1.length ≤ bndT m
 | 0, d, h => zIB h
 | m + 1, d, h => by
  rcases h with h | ⟨k, kids, rfl, hk, hn, hkids⟩
  ·obtain ⟨t, e, _⟩ := id h
   rw [zBU (m + 1) e]
   have := zIB h
   show (zHG d).length ≤ 30 * bndT m + 200
   lia
  ·have hb : ∀ t ∈ kids.map (fun x => (wr m x).1), t.length ≤ bndT m := fun t ht => by
    obtain ⟨x, hx, rfl⟩ := List.mem_map.mp ht
    exact zHW m (hkids x hx)
   have hnt : (kids.map fun x => (wr m x).1).length ≤ 6 := by rw [List.length_map]; exact hn
   rw [zCD]
   generalize kids.map (fun x => (wr m x).1) = ts at hb hnt
   show _ ≤ 30 * bndT m + 200
   generalize bndT m = B at hb
   have mul6 : ∀ a b : Nat, a ≤ 6 → a * b ≤ 6 * b := fun a b h => Nat.mul_le_mul_right _ h
   have mul7 : ∀ a b : Nat, a ≤ 7 → a * b ≤ 7 * b := fun a b h => Nat.mul_le_mul_right _ h
   split
   ·have h1 := zBk [44, 32] ([104] :: ts.map zAm)
    have h2 := zCr (fun t => (zAm t).length) (2 * B + 2) ts fun x hx => by
     have := zCY x; have := hb x hx; lia
    have h3 := mul6 _ (2 * B + 2) hnt
    have e : ((ts.map zAm).map List.length) = ts.map fun t => (zAm t).length := by rw [List.map_map]; rfl
    simp only [List.map_cons, List.sum_cons, List.length_cons, List.length_map, List.length_nil, e] at h1 ⊢
    lia
   ·split
    ·have h1 := zBk [44, 32] ([100, 61, 100] :: zAi zAm ts)
     have h2 := zCr List.length (2 * B + 5) (zAi zAm ts) fun x hx => by
      obtain ⟨i, t, hi, ht, rfl⟩ := zBx hx
      have := zCY t; have := hb t ht
      simp only [List.length_cons]; lia
     rw [zAr] at h2
     have h3 := mul6 _ (2 * B + 5) hnt
     simp only [List.map_cons, List.sum_cons, List.length_cons, zAr, List.length_nil] at h1 ⊢
     lia
    ·split
     ·have h1 := zFJ B (ts) hb
      show (zAc ([115] :: ts)).length ≤ _
      have h0 := zBj ([115] :: ts)
      have h2 := zBk [32] (([115] :: ts).map zAT)
      have h4 := zCr (fun x => (zAT x).length) (5 * B + 2) ts fun x hx => by
       have := zBg x; have := hb x hx; lia
      have h3 := mul6 _ (5 * B + 2) hnt
      have e : ((ts.map zAT).map List.length) = ts.map fun x => (zAT x).length := by rw [List.map_map]; rfl
      have h5 := zBg [115]
      rw [h0]
      simp only [List.map_cons, List.sum_cons, List.length_cons, List.length_map, List.length_nil, e] at h2 h5 ⊢
      lia
     ·show (zAc ([101, 61, 101] :: zAi quo ts)).length ≤ _
      have h0 := zBj ([101, 61, 101] :: zAi quo ts)
      have h2 := zBk [32] (([101, 61, 101] :: zAi quo ts).map zAT)
      have h4 := zCr (fun x => (zAT x).length) (5 * (B + 5) + 2) (zAi quo ts) fun x hx => by
       obtain ⟨i, t, hi, ht, rfl⟩ := zBx hx
       have h6 := zBg (107 :: (48 + i) :: 61 :: quo t)
       have := hb t ht
       simp only [List.length_cons, quo, List.length_append, List.length_nil] at h6 ⊢
       lia
      rw [zAr] at h4
      have h3 := mul6 _ (5 * (B + 5) + 2) hnt
      have e : (((zAi quo ts).map zAT).map List.length) = (zAi quo ts).map fun x => (zAT x).length := by rw [List.map_map]; rfl
      have h5 := zBg [101, 61, 101]
      rw [h0]
      simp only [List.map_cons, List.sum_cons, List.length_cons, List.length_map, zAr, List.length_nil, e] at h2 h5 ⊢
      lia
noncomputable def wrF (m : Nat) (svs : List SV) (st : St) (k : Kt) : Prop := ∃ (dd : PyData) (lsD : List PyData) (rest : List SO), svs = [svOf dd, .obj 1] ∧ zAs m dd ∧ st.led = .tab 746 :: .list (lsD.map svOf) :: rest ∧ lsD.length + (wr m dd).2.length ≤ 100000 ∧
 k (.v (.str (tx (wr m dd).1))) { st with led := .tab 746 :: .list ((lsD ++ (wr m dd).2.map zCR).map svOf) :: rest }
noncomputable abbrev dW (m : Nat) : Nat := 205 + 20 * m
noncomputable def wrSp (m : Nat) : SpE := ⟨795, 2, dW m, wrF m⟩
theorem zMI (y : SV) (l1 : List (Str × SV)) (a b : SO) (c : Option SV) (r : List SO) (k : St → Prop) : stT zBA "texts" y ⟨("texts", .obj 2) :: l1, a :: b :: .cell c :: r⟩ k = k ⟨("texts", .obj 2) :: l1, a :: b :: .cell (some y) :: r⟩ := by
 kernel_rfl
theorem zOB (P : Params) (d n : Nat) (rf : List SV → St → Kt → Prop) (evn : List (Str × NameKind) → Tk → St → Kt → Prop) (vs : List SV) (hv : vs.length = 2) (st : St) (k : Kt) (hd : d ≤ n) (h : rf vs st k) : zDC (cfWr P d rf) n evn 795 vs st k := by
 unfold zDC
 rw [hv]
 show (match Nat.ble d n with | true => rf vs st k | false => False)
 rw [Nat.ble_eq_true_of_le hd]
 exact h
theorem zQa (P : Params) (m n : Nat) (hn : dW m ≤ n + 195) (src : SV) (all : List SV) (slot : Nat → SO) (hsrc : ∀ st, srcT st src = some (all, slot)) (hslot : ∀ n led j, SoT n led (slot j) (slot j)) (kf : St → Prop) :
  ∀ (rest : List PyData) (j : Nat) (done : List (List Nat)) (lsD : List PyData), (∀ x ∈ rest, zAs m x) → done.length + rest.length ≤ 1000 → lsD.length + (rest.flatMap fun x => (wr m x).2).length ≤ 100000 →
   kf ⟨[("lines", .obj 3)], wrL0 ((lsD ++ (rest.flatMap fun x => (wr m x).2).map zCR).map svOf) (.cell none) ++ [.gone, .list ((zAJ (done ++ rest.map fun x => (wr m x).1)).map svOf)]⟩ →
   zBZ (zAN cnW (zAp lcW)) none (fun st k => ev (cfWr P (dW m) (wrF m)) (n + 196) cnW (.ex (zBG lcW)) st k) src all slot 4 5 j (rest.map svOf) ⟨[("lines", .obj 3)], wrL0 (lsD.map svOf) (.cell none) ++ [slot j, .list ((zAJ done).map svOf)]⟩ kf := by
 intro rest
 induction rest with
 | nil =>
  intro j done lsD h1 h2 h3 hk
  refine ⟨rfl, hsrc _, ?_⟩
  have e1 : lsD ++ (([] : List PyData).flatMap fun x => (wr m x).2).map zCR = lsD := List.append_nil _
  have e2 : done ++ ([] : List PyData).map (fun x => (wr m x).1) = done := List.append_nil _
  rw [e1, e2] at hk
  exact hk
 | cons x r ih =>
  intro j done lsD h1 h2 h3 hk
  rw [List.length_cons] at h2
  rw [List.flatMap_cons, List.length_append] at h3
  refine ⟨rfl, hsrc _, ?_⟩
  show zAN cnW (zAp lcW) (svOf x) ⟨[("lines", .obj 3)], .tab 746 :: .list (lsD.map svOf) :: .cell none :: .cell (some (.obj 1)) :: [slot (j + 1), .list ((zAJ done).map svOf)]⟩ _
  rw [zSk]
  refine zOB P (dW m) (n + 195) (wrF m) _ _ rfl _ _ hn ⟨x, lsD, _, rfl, h1 x (.head _), rfl, by lia, ?_⟩
  show appT 5 (.str (tx (wr m x).1)) ⟨[("lines", .obj 3), ("part", svOf x)], .tab 746 :: .list ((lsD ++ (wr m x).2.map zCR).map svOf) :: .cell none :: .cell (some (.obj 1)) :: [slot (j + 1), .list ((zAJ done).map svOf)]⟩ _
  refine ⟨by rw [zAL, sizeLine_eq]; lia, ⟨[("lines", .obj 3)], wrL0 ((lsD ++ (wr m x).2.map zCR).map svOf) (.cell none) ++ [slot (j + 1), .list ((zAJ (done ++ [(wr m x).1])).map svOf)]⟩, ?_, ?_⟩
  ·refine zHZ (n := 6) (loc := [("lines", .obj 3)]) (more := [("part", svOf x)]) ⟨by show 3 < 6; lia, trivial⟩ ?_
   refine zCi (sosW _ _ .cell0 (by lia)) (.cons (hslot _ _ _) (.cons (.list ?_) .nil))
   have e : (zAJ (done ++ [(wr m x).1])).map svOf = (zAJ done).map svOf ++ [.str (tx (wr m x).1)] := by
    unfold zAJ; rw [List.map_append, List.map_append]; rfl
   rw [e]
   exact zAu (zAx _ _ _) (.cons (.same trivial) .nil)
  ·refine ih (j + 1) _ _ (fun y hy => h1 y (.tail _ hy)) (by simp; lia) (by rw [List.length_append, List.length_map]; lia) ?_
   have e1 : lsD ++ (wr m x).2.map zCR ++ (r.flatMap fun x => (wr m x).2).map zCR = lsD ++ ((x :: r).flatMap fun x => (wr m x).2).map zCR := by
    rw [List.flatMap_cons, List.map_append, List.append_assoc]
   have e2 : done ++ [(wr m x).1] ++ r.map (fun x => (wr m x).1) = done ++ (x :: r).map fun x => (wr m x).1 := by
    rw [List.map_cons, List.append_assoc]; rfl
   rw [e1, e2]
   exact hk
theorem zEl (P : Params) (d n : Nat) (rf : List SV → St → Kt → Prop) {dd : PyData} (lsD : List PyData) (h : zDg dd) (k : Kt) (hk : ∀ loc, k (.ret (.str (tx (zHG dd)))) ⟨loc, wrL0 (lsD.map svOf) (.cell none)⟩) :
  ev (cfWr P d rf) (n + 200) zBA (.sts (zAE s795)) (wrSt (svOf dd) (lsD.map svOf) [] (.cell none) []) k := by
 obtain ⟨t, rfl, ht, _⟩ := h
 show ev (cfWr P d rf) (n + 200) zBA (.sts (zAE s795)) (wrSt (.str (tx t)) (lsD.map svOf) [] (.cell none) []) k
 rw [zQb]
 refine ⟨rfl, ?_⟩
 have e0 : zHG (.str (tx t)) = if t = [] then [] else 108 :: t := by
  show (if (tx t).cps.toList = [] then [] else 108 :: (tx t).cps.toList) = _
  rw [zBV]
 rw [e0] at hk
 have e1 : ("l" : Str) = tx [108] := by rfl
 refine zAv (fun q => ?_) fun q => ?_
 ·have hne : t ≠ [] := fun e => by
   rw [e] at q; exact absurd q (by decide)
  rw [if_neg hne] at hk
  rw [e1, zAP]
  exact ⟨by rw [zAF, zAF, sizeLine_eq]; show 1 + _ ≤ _; lia, hk _⟩
 ·have he : t = [] := by
   have q2 : Fast.sEq (tx t) "" = true := by simpa using q
   have := congrArg Str.length (zAQ q2)
   rw [zAF] at this
   exact List.eq_nil_of_length_eq_zero this
  rw [if_pos he] at hk
  exact hk _
theorem zSX {n : Nat} {l : List SO} (a b c d t : SO) (h : n ≤ l.length + 4) : (mask n (a :: b :: c :: d :: (l ++ [t])))[(a :: b :: c :: d :: l).length]? = some t := by
 rw [zJy (by simp; omega)]
 have : a :: b :: c :: d :: (l ++ [t]) = (a :: b :: c :: d :: l) ++ [t] := rfl
 rw [this]
 simp
theorem zKc (lsD new : List PyData) : (lsD ++ new).map svOf = lsD.map svOf ++ new.map svOf := List.map_append
theorem zFy (P : Params) (d n : Nat) (rf : List SV → St → Kt → Prop) (ds tds lsD : List PyData) (kd : Str) (ws : List (List Nat)) (k : Kt) (hn : ws.length ≤ 10) (hb : ∀ t ∈ ws, t.length ≤ 100000) (hls : lsD.length ≤ 100000)
  (hk : ∀ loc led, SosT 2 led (led.take 2) [.tab 746, .list ((lsD ++ [zCR (ws, zAc ws)]).map svOf)] → k (.ret (.str (tx (zAc ws)))) ⟨loc, led⟩) (l : List SO) :
  ev (cfWr P d rf) (n + 194) zBA (.sts ((zAE s795).drop 6)) ⟨zBt (.dat (.list ds)) kd ++ [(("words" : Str), .dat (.list (zAJ ws)))], wrL0 (lsD.map svOf) (wrC tds) ++ l⟩ k := by
 rw [zSj]
 have hj : Txt.join " " ((ws.map tx).map zBn) = tx (zAc ws) := by
  rw [zHX, List.map_map]
  have : (zBn ∘ tx) = fun x => tx (zAT x) := by
   funext x
   show tx (zAT (tx x).cps.toList) = _
   rw [zBV]
  rw [this, zDp]
 have hll := zFJ 100000 ws hb
 have hm : ws.length * (5 * 100000 + 2) ≤ 10 * (5 * 100000 + 2) := Nat.mul_le_mul_right _ hn
 refine ⟨⟨_, rfl⟩, ws.map tx, by unfold zAJ; rw [List.map_map]; rfl, fun x hx => ?_, zCZ ?_, ?_, ?_⟩
 ·obtain ⟨t, ht, rfl⟩ := List.mem_map.mp hx
  rw [zAF]; have := hb t ht; lia
 ·have h2 := zCr (fun x => (zAT x).length) (5 * 100000 + 2) ws fun x hx => by
   have := zBg x; have := hb x hx; lia
  have e : ((ws.map tx).map zBn).map (·.length) = ws.map fun x => (zAT x).length := by
   rw [List.map_map, List.map_map]
   refine List.map_congr_left fun x _ => ?_
   show (tx (zAT (tx x).cps.toList)).length = _
   rw [zAF, zBV]
  rw [e, List.length_map, List.length_map]
  have : (" " : Str).length = 1 := by rfl
  rw [this]
  lia
 ·rw [hj, zAF, sizeLine_eq]; lia
 ·rw [hj]
  show ev (cfWr P d rf) (n + 193) zBA (.sts ((zAE s795).drop 7)) ⟨zBt (.dat (.list ds)) kd ++ [(("words" : Str), .dat (.list (zAJ ws))), ("line", .str (tx (zAc ws)))], .tab 746 :: .list (lsD.map svOf) :: wrC tds :: .cell (some (.obj 1)) :: l⟩ k
  rw [zSi]
  refine ⟨by rw [List.length_map, sizeLine_eq]; lia, hk _ _ ?_⟩
  refine .cons .tab (.cons (.list ?_) .nil)
  rw [zKc]
  refine zAu (zAx _ _ _) (.cons ?_ .nil)
  refine .frz (d := zCR (ws, zAc ws)) (.tup (zSX _ _ _ _ _ (by lia)) (by rw [sizeLine_eq]; show 2 ≤ 16777216; decide) ?_)
  exact .cons (.dat _) (.cons (.str _) .nil)
theorem zIf (P : Params) (m n : Nat) (hm : m ≤ 2) (hn : dW m ≤ n + 195) (kd : Str) (kids lsD : List PyData) (hkd : kd = "s" ∨ kd = "h" ∨ kd = "e" ∨ kd = "d") (hlen : kids.length ≤ 6) (hkids : ∀ x ∈ kids, zAs m x) (hls : lsD.length + (wr (m + 1) (.list (.str kd :: kids))).2.length ≤ 100000) (k : Kt)
  (hk : ∀ loc led, SosT 2 led (led.take 2) [.tab 746, .list ((lsD ++ (wr (m + 1) (.list (.str kd :: kids))).2.map zCR).map svOf)] → k (.ret (.str (tx (wr (m + 1) (.list (.str kd :: kids))).1))) ⟨loc, led⟩) :
  ev (cfWr P (dW m) (wrF m)) (n + 200) zBA (.sts (zAE s795)) (wrSt (.dat (.list (.str kd :: kids))) (lsD.map svOf) [] (.cell none) []) k := by
 rw [zQZ]
 refine ⟨rfl, .str kd, zNT (i := 0) rfl (by rw [List.length_map, List.length_cons]; lia), ?_⟩
 rw [zOI]
 have esl : slD (.str kd :: kids) (some 1) none = kids := by
  rw [show (1 : Int) = ((1 : Nat) : Int) from rfl, zEa]; rfl
 rw [esl]
 have e0 : lsD.length + (kids.flatMap fun x => (wr m x).2).length ≤ 100000 := by
  rw [zCD] at hls
  split at hls
  ·exact hls
  ·split at hls
   ·exact hls
   ·split at hls <;> (dsimp only at hls; rw [List.length_append] at hls; lia)
 refine zQa P m n hn (.dat (.list kids)) (kids.map svOf) (.it true (.dat (.list kids))) (fun _ => rfl) (fun _ _ _ => .it (.same trivial)) _ kids 0 [] lsD hkids (by simp; lia) e0 ?_
 generalize hts : kids.map (fun x => (wr m x).1) = ts
 generalize hnew : (kids.flatMap fun x => (wr m x).2) = new at *
 have hb : ∀ t ∈ ts, t.length ≤ 90000 := fun t ht => by
  rw [← hts] at ht
  obtain ⟨x, hx, rfl⟩ := List.mem_map.mp ht
  have h1 := zHW m (hkids x hx)
  have h2 := zCg hm
  have : bndT 2 = 8900 := rfl
  lia
 have hb' : ∀ t ∈ ts, t.length ≤ 100000 := fun t ht => Nat.le_trans (hb t ht) (by decide)
 have hnt : ts.length ≤ 6 := by rw [← hts, List.length_map]; exact hlen
 rw [zCD, hts, hnew] at hk
 rw [List.nil_append]
 generalize hl2 : lsD ++ new.map zCR = lsE at *
 have hlE : lsE.length ≤ 100000 := by rw [← hl2, List.length_append, List.length_map]; lia
 refine ⟨(zAJ ts).map svOf, zAJ ts, ⟨zBt (.dat (.list (.str kd :: kids))) kd, wrL0 (lsE.map svOf) (.cell none)⟩, rfl, zFS _, by rw [zDG, sizeLine_eq]; lia, ?_, ?_⟩
 ·have := zHZ (n := 4) (loc := zBt (.dat (.list (.str kd :: kids))) kd) (more := []) (led := wrL0 (lsE.map svOf) (.cell none) ++ [.gone, .list ((zAJ ts).map svOf)]) (led' := wrL0 (lsE.map svOf) (.cell none)) (zDS _ kd (Nat.le_refl 4)) (sosW lsE _ .cell0 (by lia))
  rw [List.append_nil] at this
  exact this
 ·refine cast (zMI (.dat (.list (zAJ ts))) _ _ _ none _ _).symm ?_
  show ev (cfWr P (dW m) (wrF m)) (n + 197) zBA (.sts ((zAE s795).drop 3)) (wrSt (.dat (.list (.str kd :: kids))) (lsE.map svOf) [("kind", .str kd)] (wrC (zAJ ts)) []) k
  rw [wr_3]
  have eL : ∀ x : Ln, lsD ++ (new ++ [x]).map zCR = lsE ++ [zCR x] := fun x => by
   rw [List.map_append, ← List.append_assoc, hl2]; rfl
  have sos2 : ∀ led, SosT 2 led [.tab 746, .list (lsE.map svOf)] [.tab 746, .list (lsE.map svOf)] := fun led => .cons .tab (.cons (.list (zAx _ _ _)) .nil)
  refine zAv (fun q => ?_) fun q => ?_
  ·rw [if_pos q] at hk
   refine zQd (by lia) hb' ?_
   show k (.ret _) _
   refine hk _ _ ?_
   rw [hl2]
   exact sos2 _
  ·rw [if_neg (by rw [q]; decide)] at hk
   refine zAv (fun q => ?_) fun q => ?_
   ·rw [if_pos q] at hk
    refine zQj (by lia) hb' fun l => ?_
    show k (.ret _) _
    refine hk _ _ ?_
    rw [hl2]
    exact sos2 _
   ·rw [if_neg (by rw [q]; decide)] at hk
    refine zAv (fun q => ?_) fun q => ?_
    ·rw [if_pos q] at hk
     refine zQX (by lia) fun l => ?_
     rw [zBC]
     refine zFy P (dW m) n (wrF m) _ (zAJ ts) lsE kd ([115] :: ts) k (by rw [List.length_cons]; lia) (fun t ht => ?_) hlE (fun loc led h => ?_) l
     ·rcases List.mem_cons.mp ht with rfl | ht
      ·show 1 ≤ _; lia
      ·exact hb' t ht
     ·refine hk _ _ ?_
      dsimp only
      rw [eL]
      exact h
    ·rw [if_neg (by rw [q]; decide)] at hk
     refine zQg (by lia) hb' fun l => ?_
     rw [zBC]
     refine zFy P (dW m) n (wrF m) _ (zAJ ts) lsE kd ([101, 61, 101] :: zAi quo ts) k (by rw [List.length_cons, zAr]; lia) (fun t ht => ?_) hlE (fun loc led h => ?_) l
     ·rcases List.mem_cons.mp ht with rfl | ht
      ·show 3 ≤ _; lia
      ·obtain ⟨i, t2, hi, ht2, rfl⟩ := zBx ht
       have := hb t2 ht2
       simp only [List.length_cons, quo, List.length_append, List.length_nil]
       lia
     ·refine hk _ _ ?_
      dsimp only
      rw [eL]
      exact h
theorem zJh (n : Nat) (d : PyData) : okV n (svOf d) := by cases d <;> trivial
theorem zUR {w : World} {C : Cf} (hK : C.K = KK w.params) (d : Nat) : SpOk w C ⟨795, 2, d, fun _ _ _ => False⟩ := ⟨by rw [hK]; kernel_rfl, fun F A ads st s svs vs k Q Rr ok hA hh hd hu h => h.elim⟩
theorem zUl (w : World) (d : Nat) (rf : List SV → St → Kt → Prop) (h : SpOk w (cfWr w.params d rf) ⟨795, 2, d, rf⟩) : CfOk w (cfWr w.params d rf) :=
 ⟨zAD, zAD, zAn (zUd _), zAA h <| zAA (zSF rfl rfl) <| zAA (zMu rfl rfl) zAD, zAD, zAD⟩
theorem zLc {w : World} {C : Cf} (M d : Nat) (rf : List SV → St → Kt → Prop) (hsub : SpOk w (cfWr w.params d rf) ⟨795, 2, d, rf⟩) (hK : C.K = KK w.params) (hC : C.known = true)
  (hbody : ∀ (dd : PyData) (lsD : List PyData) (k : Kt), zAs M dd → lsD.length + (wr M dd).2.length ≤ 100000 → (∀ loc led, SosT 2 led (led.take 2) [.tab 746, .list ((lsD ++ (wr M dd).2.map zCR).map svOf)] → k (.ret (.str (tx (wr M dd).1))) ⟨loc, led⟩) →
   ev (cfWr w.params d rf) (20 * M + 200) zBA (.sts (zAE s795)) (wrSt (svOf dd) (lsD.map svOf) [] (.cell none) []) k) : SpOk w C (wrSp M) := by
 refine ⟨by rw [hK]; kernel_rfl, ?_⟩
 intro F A ads st s svs vs k Q Rr ok hA hh hd hu h R D hl' T hR
 replace hA : true = true → A.frames = some F.stk := fun _ => hA hC
 obtain ⟨dd, lsD, rest, rfl, htree, hled, hls, hk⟩ := h
 have okY : FmOk (cfWr w.params d rf) F := zAX hK.symm ok (by first | exact fun _ => rfl | exact fun _ => by assumption | exact fun h => h)
 have d40 : (wrSp M).d = 205 + 20 * M := rfl
 rw [d40] at hd hu
 refine zBS (e := f795) (n := 20 * M + 200) (led₁ := [.tab 746, .list (lsD.map svOf)]) (led₂ := rest) (zBs (zUl w d rf hsub) (20 * M + 200)) (zTc _) okY hA hh (by lia) (by lia) R D hl' hled ⟨trivial, (fun x hx => ?_), trivial⟩ (fun x hx => ?_) (by decide) ?_ T hR
 ·obtain ⟨y, _, rfl⟩ := List.mem_map.mp hx
  exact zJh _ y
 ·rcases List.mem_cons.mp hx with rfl | hx
  ·exact zJh _ _
  ·rw [List.mem_singleton.mp hx]; show 1 < 2; decide
 ·show ev (cfWr w.params d rf) (20 * M + 200) zBA (.sts (zAE s795)) (wrSt (svOf dd) (lsD.map svOf) [] (.cell none) []) _
  exact hbody dd lsD _ htree hls fun loc led hs => ⟨_, _, _, .inl rfl, .same trivial, hs, hk⟩
theorem zSh {w : World} : ∀ (M : Nat), M ≤ 3 → ∀ {C : Cf}, C.K = KK w.params → C.known = true → SpOk w C (wrSp M)
 | 0, _, C, hK, hC => zLc 0 0 (fun _ _ _ => False) (zUR rfl 0) hK hC fun dd lsD k ht hl hk => by
  refine zEl w.params 0 0 _ lsD ht k fun loc => ?_
  obtain ⟨t, e, _⟩ := id ht
  rw [zBU 0 e] at hk
  refine hk _ _ ?_
  rw [List.map_nil, List.append_nil]
  exact .cons .tab (.cons (.list (zAx _ _ _)) .nil)
 | M + 1, hM, C, hK, hC => zLc (M + 1) (dW M) (wrF M) (zSh M (by lia) rfl rfl) hK hC fun dd lsD k ht hl hk => by
  rcases ht with ht | ⟨kd, kids, rfl, hkd, hlen, hkids⟩
  ·refine zEl w.params (dW M) (20 * (M + 1)) _ lsD ht k fun loc => ?_
   obtain ⟨t, e, _⟩ := id ht
   rw [zBU (M + 1) e] at hk
   refine hk _ _ ?_
   rw [List.map_nil, List.append_nil]
   exact .cons .tab (.cons (.list (zAx _ _ _)) .nil)
  ·exact zIf w.params M (20 * (M + 1)) (by lia) (by show 205 + 20 * M ≤ _; lia) kd kids lsD hkd hlen hkids hl k hk
section
variable {w : World} {C : Cf} {F : Fm} {ads : Wd} {s : Shared} {st : St} {A : Around} {E : Value → Shared → Prop}
theorem zRy {B : Heap} {G : Wd} : ∀ {fs : List (Str × SV)} {kvs : List (Str × Value)}, KvR B G fs kvs → DenL B G (fs.map (·.2)) (kvs.map (·.2)) := by
 intro fs kvs r
 induction r with
 | nil => exact .nil
 | cons d _ ih => exact .cons d ih
theorem zJq {B : Heap} {fz : List (Addr × Obj)} : ∀ {kvs : List (Str × Value)} {vs : List Value}, vs.length = kvs.length → (∀ (j : Nat) (v : Value), vs[j]? = some v → ∃ (k : Str) (x : Value), kvs[j]? = some (k, x) ∧ ∃ t : Tok, v = Value.str k t) → RdL B fz vs (kvs.map fun p => .str p.1)
 | [], [], _, _ => .nil
 | q :: r, v :: vs, hl, hv => by
  obtain ⟨k, x, e, t, ev⟩ := hv 0 v rfl
  simp only [List.getElem?_cons_zero, Option.some.injEq] at e
  subst e; subst ev
  exact .cons (.str _ _) (zJq (by simpa using hl) fun j u hu => by simpa using hv (j + 1) u (by simpa using hu))
 | [], _ :: _, hl, _ => by simp at hl
 | _ :: _, [], hl, _ => by simp at hl
theorem zNh {h' : Heap} {t : Nat} {acc : Array Value} {c : Nat} {ds : List PyData} {Q : Value → Shared → Prop} (R : Rep w F ads st s.heap) (grow : ∀ b o, s.heap.get? b = some o → h'.get? b = some o)
  {a : Addr} (ha : s.heap.objs.size ≤ a) (ho : h'.get? a = some { cls := .type "list", dict := none, data := .seq acc c, slots := #[] }) (hl : ds.length ≤ sizeLine) (f : ∀ d ∈ ds, Fits d) (r : RdL F.B ads.fz acc.toList ds)
  (hQ : ∀ z v s', Rep w F (wa ads (⟨[], z⟩ : Wd)) st s'.heap → Nx F s s' → Den F.B (wa ads (⟨[], z⟩ : Wd)) (.dat (.list ds)) v → Q v s') : Q (.ref a) { s with heap := h', toks := t } := by
 have ho' : h'.get? a = some (zES acc.toList c) := by rw [ho]
 exact hQ [(a, zES acc.toList c)] (.ref a) _ (zJn R grow ho' ha) (Nx.of_gens rfl rfl rfl) (zEi hl f r)
theorem zNr {i : Nat} {fs : List (Str × SV)} {u : Value} (ok : FmOk C F) (R : Rep w F ads st s.heap) (d : Den F.B ads (.obj i) u) (hi : st.led[i]? = some (.dic fs)) :
  ∃ a o kvs, u = .ref a ∧ s.heap.get? a = some o ∧ o.IsDictOf (strKind prog w) kvs ∧ KvR F.B ads fs kvs ∧ (a == sysModules) = false := by
 obtain ⟨m, news, lw, pre, ps, post, a, dd, X, h1, h2, h3, h4⟩ := zDP R hi
 obtain ⟨p, hp, rfl⟩ := d
 rw [h2] at hp; cases hp
 obtain ⟨o, kvs, hd, hk, rfl⟩ := h3.inv
 ·have ho := X.nw (a, o) (by rw [h1]; simp)
  refine ⟨a, o, kvs, rfl, ho.1, zIT hd, hk, ?_⟩
  obtain ⟨o1, hs⟩ := ok.G.sm
  refine beq_eq_false_iff_ne.mpr fun e => ?_
  have h0 := ho.2.2
  rw [show (a, o).1 = sysModules from e, hs] at h0
  cases h0
theorem zFq {i : Nat} {fs : List (Str × SV)} {u : Value} {Q : Value → Shared → Prop} (ok : FmOk C F) (hh : A.handled = none) (R : Rep w F ads st s.heap) (d : Den F.B ads (.obj i) u) (hi : st.led[i]? = some (.dic fs)) (hl : fs.length ≤ 1000000) (hk : ∀ p ∈ fs, p.1.length ≤ sizeLine)
  (hQ : ∀ z v s', Rep w F (wa ads (⟨[], z⟩ : Wd)) st s'.heap → Nx F s s' → Den F.B (wa ads (⟨[], z⟩ : Wd)) (.dat (.list (fs.map fun p => .str p.1))) v → Q v s') : wpAny (model prog w) A (call (.type "list") [u]) Q E s := by
 obtain ⟨a, o, kvs, rfl, ho, hd, kv, lo⟩ := zNr ok R d hi
 obtain ⟨ep, hat⟩ := (Heap.dictOf_iff.mpr ⟨o, ho, hd⟩).dictAt
 refine kdl_call (kdl_dict (knd := strKind prog w) (kvs := kvs) (ep := ep) lo) hh hat (by rw [kv.length, sizeLine_eq]; lia) fun h' tk acc c' grow hB items => ?_
 have e1 : (kvs.map fun p => PyData.str p.1) = fs.map fun p => PyData.str p.1 := by
  have := congrArg (List.map PyData.str) kv.names
  rw [List.map_map, List.map_map] at this
  exact this
 refine zNh (ds := fs.map fun p => .str p.1) R grow (Nat.le_refl _) hB (by rw [List.length_map, sizeLine_eq]; lia) (fun x hx => ?_) ?_ hQ
 ·obtain ⟨p, hp, rfl⟩ := List.mem_map.mp hx
  exact .str (hk p hp)
 ·rw [← e1]
  refine zJq (by rw [Array.length_toList]; exact items.1) fun j v e => ?_
  obtain ⟨k, x, hx, hk⟩ := items.2 j v (by rw [← Array.getElem?_toList]; exact e)
  exact ⟨k, x, hx, Value.isStrOf_shape hk⟩
theorem zFp {i : Nat} {fs : List (Str × SV)} {ds : List PyData} {u : Value} {Q : Value → Shared → Prop} (ok : FmOk C F) (hh : A.handled = none) (R : Rep w F ads st s.heap) (d : Den F.B ads (.obj i) u) (hi : st.led[i]? = some (.dic fs)) (hl : fs.length ≤ 1000000) (hv : frzs (fs.map (·.2)) = some ds)
  (hQ : ∀ z v s', Rep w F (wa ads (⟨[], z⟩ : Wd)) st s'.heap → Nx F s s' → Den F.B (wa ads (⟨[], z⟩ : Wd)) (.dat (.list ds)) v → Q v s') : wpAny (model prog w) A (call (.builtin "dict.values") [u]) (fun v s₁ => wpAny (model prog w) A (call (.type "list") [v]) Q E s₁) E s := by
 obtain ⟨a, o, kvs, rfl, ho, hd, kv, lo⟩ := zNr ok R d hi
 have hD := Heap.dictOf_iff.mpr ⟨o, ho, hd⟩
 refine call_meetsIn PySem.F.slot_dict_values hD.typeIs PySem.F.entry_dict_values (PySem.F.args_dict_values_1 _) (meets_dict_values (strKind prog w) a lo) ⟨⟨kvs, hD⟩, ?_⟩
 obtain ⟨ep, hat⟩ := hD.dictAt
 obtain ⟨f1, f2, f3⟩ := zDt (zRy kv) hv
 rw [List.length_map] at f3
 refine kdl_call (kdl_values (knd := strKind prog w) (kvs := kvs) (ep := ep)) hh ⟨⟨_, Heap.get?_push_size _ rfl, rfl, rfl⟩, hat.push _⟩ (by rw [kv.length, sizeLine_eq]; lia) fun h' tk acc c' grow hB items => ?_
 refine zNh (s := s) (ds := ds) R (fun b o e => grow b o (Heap.get?_push_of_some _ e)) ?_ hB (by rw [sizeLine_eq]; lia) f1 ?_ hQ
 ·show s.heap.objs.size ≤ (s.heap.push _).objs.size
  simp [Heap.push]
 ·have e2 : acc.toList = kvs.map (·.2) := kdl_vals_eq acc.toList (by rw [Array.length_toList]; exact items.1) fun j v e => items.2 j v (by rw [← Array.getElem?_toList]; exact e)
  rw [e2]
  exact f2
end
noncomputable def s805 : Stmt := stAt 37 B01
noncomputable def f805 : FnE := ⟨805, 2, ["text", "floors"], [], zAE s805, zAB s805, "_law_read", .ref 804, ["floors"]⟩
theorem zTa (P : Params) : FnOk (KK P) f805 := FnOk.of (by kernel_rfl) (by kernel_rfl) ⟨_, _, _, _, (by kernel_rfl : (KK P).lookup 805 = some (o805 P)), rfl, rfl, fun _ _ => rfl, rfl, rfl, fun s vs X h => by
 obtain ⟨a, b, rfl⟩ := len2 h
 exact BindsTo.of_eq (by kernel_rfl)⟩
noncomputable def zAj : List (Str × NameKind) := (zAB s805).names
noncomputable def gRd : List (Str × Value) := [("split", .ref 744), ("parse_http_list", .ref 771), ("parse_keqv_list", .ref 766), ("list", .type "list"), ("str", .type "str"), ("range", .type "range"), ("len", .builtin "len"), ("_law_read", .ref 805)]
theorem zTW (P : Params) : ∀ p ∈ gRd, zDh (KK P) p :=
 zAA ⟨by kernel_rfl, .inl (by kernel_rfl)⟩ <| zAA ⟨by kernel_rfl, .inl (by kernel_rfl)⟩ <| zAA ⟨by kernel_rfl, .inl (by kernel_rfl)⟩ <|
 zAA ⟨by kernel_rfl, .inr ⟨by kernel_rfl, by kernel_rfl, by kernel_rfl⟩⟩ <| zAA ⟨by kernel_rfl, .inr ⟨by kernel_rfl, by kernel_rfl, by kernel_rfl⟩⟩ <| zAA ⟨by kernel_rfl, .inr ⟨by kernel_rfl, by kernel_rfl, by kernel_rfl⟩⟩ <|
 zAA ⟨by kernel_rfl, .inr ⟨by kernel_rfl, by kernel_rfl, by kernel_rfl⟩⟩ <| zAA ⟨by kernel_rfl, .inl (by kernel_rfl)⟩ zAD
noncomputable def ifR2 : Stmt := stAt 2 (zAE s805)
noncomputable def ifR3 : Stmt := stAt 0 (zDZ ifR2)
noncomputable def kvB : List Stmt := zDZ ifR3
noncomputable def subO : Expr → Expr
 | .Subscript o _ _ => o
 | _ => default
noncomputable def valE : Expr := subO (aVal (stAt 1 kvB))
noncomputable def ifR4 : Stmt := stAt 2 kvB
noncomputable def keyE : Expr := cmpL (zCt ifR4)
theorem zSn : ∃ p1 p2 p3 p4 p5, valE = .Call (.Name "list" p1) [.Call (.Attribute (.Name "told" p2) "values" p3) [] [] p4] [] p5 ∧ (p3.endLine == p4.line) = true := ⟨kp valE [0], kp valE [1, 0, 0], kp valE [1, 0], kp valE [1], kp valE [], by kernel_rfl, by kernel_rfl⟩
theorem zTP : ∃ p1 p2 p5, keyE = .Call (.Name "list" p1) [.Name "told" p2] [] p5 := ⟨kp keyE [0], kp keyE [1], kp keyE [], by kernel_rfl⟩
noncomputable def valHk : HkE Expr := ⟨(cPos valE).line, (cPos valE).col, 5, valE, fun ns st k => ns = zAj ∧ ∃ fs ds, lk "told" st.loc = some (.obj 1) ∧ st.led[1]? = some (.dic fs) ∧ fs.length ≤ 1000000 ∧ frzs (fs.map (·.2)) = some ds ∧ k (.v (.dat (.list ds))) st⟩
noncomputable def keyHk : HkE Expr := ⟨(cPos keyE).line, (cPos keyE).col, 5, keyE, fun ns st k => ns = zAj ∧ ∃ fs, lk "told" st.loc = some (.obj 1) ∧ st.led[1]? = some (.dic fs) ∧ fs.length ≤ 1000000 ∧ (∀ p ∈ fs, p.1.length ≤ sizeLine) ∧ k (.v (.dat (.list (fs.map fun p => .str p.1)))) st⟩
noncomputable abbrev cfGl (P : Params) : Cf where
 K := KK P
 globs := gRd
 fns := []
 cls := []
theorem zUD (w : World) : CfOk w (cfGl w.params) := ⟨zAD, zAD, zAn (zTW _), zAD, zAD, zAD⟩
theorem zPW {w : World} {C : Cf} (hK : C.K = KK w.params) (hC : C.known = true) : HxOk w C keyHk := by
 intro F E ads st s k Q ok hd hu h R T
 obtain ⟨hns, fs, hx, hi, hl, hk, hk2⟩ := h
 obtain ⟨p1, p2, p5, e⟩ := zTP
 show wpAny (model prog w) F.A (eval keyE F.env) (fun v s' => Q (.v v) s') E s
 rw [e]
 have ok3 : FmOk (cfGl w.params) F := zAX (by rw [hK]) ok (by first | exact fun _ => rfl | exact fun _ => by assumption | exact fun h => h)
 refine Call_ (zCX (zUD w) ok3 (by rw [hns]; kernel_rfl) (by kernel_rfl : lk "list" gRd = some (.type "list")) (by kernel_rfl) R ?_)
 refine zAY (fun a e => nomatch e) rfl (spliced_more (zHw ok3 (by rw [hns]; kernel_rfl) hx (by kernel_rfl) R fun v dv => spliced_none ?_) rfl)
 exact zFq ok ok.hand R dv hi hl hk fun z v s' R' nx d => T (.v _) _ ⟨[], z⟩ (.v v) s' hk2 R' nx d
theorem zOL {w : World} {C : Cf} (hK : C.K = KK w.params) (hC : C.known = true) : HxOk w C valHk := by
 intro F E ads st s k Q ok hd hu h R T
 obtain ⟨hns, fs, ds, hx, hi, hl, hv, hk2⟩ := h
 obtain ⟨p1, p2, p3, p4, p5, e, hp⟩ := zSn
 show wpAny (model prog w) F.A (eval valE F.env) (fun v s' => Q (.v v) s') E s
 rw [e]
 have ok3 : FmOk (cfGl w.params) F := zAX (by rw [hK]) ok (by first | exact fun _ => rfl | exact fun _ => by assumption | exact fun h => h)
 refine Call_ (zCX (zUD w) ok3 (by rw [hns]; kernel_rfl) (by kernel_rfl : lk "list" gRd = some (.type "list")) (by kernel_rfl) R ?_)
 refine zAY (fun a e => nomatch e) rfl (spliced_more ?_ rfl)
 have base : eval (.Call (.Attribute (.Name "told" p2) "values" p3) [] [] p4) F.env = (do
   let ov ← eval (.Name "told" p2) F.env
   standAt p3.atName
   let (f, first) ← holding [ov] (getMethod ov "values" (do return (← importBound (.Name "told" p2) F.env).getD true))
   callWith p4 f first (backTo p4 (starEach [] F.env)) []) := by
  show (do
   let ov ← attributeBase (.Name "told" p2) "values" F.env (eval (.Name "told" p2) F.env)
   standAt p3.atName
   methodCall (.Name "told" p2) "values" p3 p4 F.env ov (0 + 0) (backTo p4 (starEach [] F.env)) (backToKw p4 (keywordEach [] F.env))) = _
  rw [zJR rfl]
  unfold methodCall calleeOf methodCallPos
  have few : methodCallForm (0 + 0) (backTo p4 (starEach [] F.env)) (backToKw p4 (keywordEach [] F.env)) = true := rfl
  rw [few]
  simp only [if_true, Bool.not_true, Bool.false_or, hp]
  rfl
 refine MethodCall_ (zHw ok3 (by rw [hns]; kernel_rfl) hx (by kernel_rfl) R fun v dv => ?_) base
 obtain ⟨a, o, kvs, rfl, ho, hdd, kv, lo⟩ := zNr ok R dv hi
 have hD := Heap.dictOf_iff.mpr ⟨o, ho, hdd⟩
 refine getMethod_builtin hD.typeIs PySem.F.plainAttrs_dict PySem.F.slot_dict_values PySem.F.type_dict_values hD.mapOf.noDict ?_
 refine zAY (fun a e => nomatch e) rfl (spliced_none ?_)
 refine wpAny_mono (zFp (E := E) (Q := fun v s' => Q (.v v) s') ok ok.hand R dv hi hl hv fun z v s' R' nx d => T (.v _) _ ⟨[], z⟩ (.v v) s' hk2 R' nx d) (fun v s' hq => spliced_none hq) fun _ _ h => h
noncomputable abbrev cfRd (P : Params) (d : Nat) (rf : List SV → St → Kt → Prop) : Cf where
 K := KK P
 globs := gRd
 fns := []
 cls := []
 sps := [⟨805, 2, d, rf⟩, splitSp, httpSp, keqvSp]
 hxs := [valHk, keyHk]
noncomputable abbrev zCV (b : Str) (f : Int) (more : List (Str × SV)) : List (Str × SV) := ("floors", .obj 0) :: ("text", .str b) :: ("floors", .int f) :: more
noncomputable abbrev rdSt (b : Str) (f : Int) (more : List (Str × SV)) (l : List SO) : St := ⟨zCV b f more, .cell (some (.int f)) :: l⟩
noncomputable abbrev kd1 (b : Str) : Str := Txt.slice b none (some 1)
theorem rd_1 (P : Params) (d n : Nat) (rf : List SV → St → Kt → Prop) (b : Str) (f : Int) (k : Kt) : ev (cfRd P d rf) (n + 300) zAj (.sts (zAE s805)) (rdSt b f [] []) k =
   ifT (Fast.sEq (kd1 b) "") (k (.ret (.str (Txt.slice b (some 1) none))) (rdSt b f [("kind", .str (kd1 b))] []))
    (ifT (Fast.sEq (kd1 b) "l") (k (.ret (.str (Txt.slice b (some 1) none))) (rdSt b f [("kind", .str (kd1 b))] []))
      (ifT (f == 0) (k (.ret (.str (Txt.slice b (some 1) none))) (rdSt b f [("kind", .str (kd1 b))] []))
        (ev (cfRd P d rf) (n + 298) zAj (.sts ((zAE s805).drop 2)) (rdSt b f [("kind", .str (kd1 b))] []) k))) := by
  kernel_rfl
noncomputable def zMX (P : Params) (d n : Nat) (rf : List SV → St → Kt → Prop) (k : Kt) : Kt := zDF (fun st k => ev (cfRd P d rf) (n + 297) zAj (.sts ((zAE s805).drop 3)) st k) k
noncomputable abbrev rdK (b : Str) (f : Int) (kd : Str) : St := rdSt b f [("kind", .str kd)] []
noncomputable def lcP : Expr := aVal (stAt 0 (zAV ifR3))
noncomputable def cnP : List (Str × NameKind) := zBE (lcSc lcP).names
theorem rd_2 (P : Params) (d n : Nat) (rf : List SV → St → Kt → Prop) (b : Str) (f : Int) (kd : Str) (k : Kt) : ev (cfRd P d rf) (n + 298) zAj (.sts ((zAE s805).drop 2)) (rdK b f kd) k =
   ifT (Fast.sEq kd "s") (ev (cfRd P d rf) (n + 296) zAj (.sts (zAV ifR2)) (rdK b f kd) (zMX P d n rf k))
    (ifT (Fast.sEq kd "h") (ev (cfRd P d rf) (n + 294) zAj (.sts (zAV ifR3)) (rdK b f kd) (nxt (zMX P d n rf k)))
      (ev (cfRd P d rf) (n + 294) zAj (.sts kvB) (rdK b f kd) (nxt (zMX P d n rf k)))) := by
  kernel_rfl
theorem rd_s (P : Params) (d n : Nat) (rf : List SV → St → Kt → Prop) (b : Str) (f : Int) (kd : Str) (k : Kt) : ev (cfRd P d rf) (n + 296) zAj (.sts (zAV ifR2)) (rdK b f kd) k =
   zJj [.str b] (rdK b f kd) (fun r st => match r with
     | .v x => slT st x (some 1) none fun z st => k .next { st with loc := put "parts" z st.loc }
     | _ => False) := by
  kernel_rfl
theorem rd_h (P : Params) (d n : Nat) (rf : List SV → St → Kt → Prop) (b : Str) (f : Int) (kd : Str) (k : Kt) : ev (cfRd P d rf) (n + 294) zAj (.sts (zAV ifR3)) (rdK b f kd) k =
   (b.length ≤ 1000000 ∧ zBZ (zAN cnP (zAp lcP)) none (fun st k => ev (cfRd P d rf) (n + 292) cnP (.ex (zBG lcP)) st k) (.dat (.list (slD ((zBO b.cps.toList).map .str) (some 1) none))) ((slD ((zBO b.cps.toList).map .str) (some 1) none).map svOf) (.it true (.dat (.list (slD ((zBO b.cps.toList).map .str) (some 1) none)))) 1 2 0 ((slD ((zBO b.cps.toList).map .str) (some 1) none).map svOf)
     ⟨[], [.cell (some (.int f))] ++ [.it true (.dat (.list (slD ((zBO b.cps.toList).map .str) (some 1) none))) 0, .list []]⟩
     (fun stE => zAg (zCV b f [("kind", .str kd)]) 1 2 stE fun y st => k .next { st with loc := put "parts" y st.loc })) := by
  kernel_rfl
theorem zRe (P : Params) (d n : Nat) (rf : List SV → St → Kt → Prop) (x : Str) (l : List SO) (K : Kt) (D : St → Prop) : zAN cnP (zAp lcP) (.str x) ⟨[], l⟩ (fun st₁ => zCo none st₁ fun c st₂ => ifT c (ev (cfRd P d rf) (n + 292) cnP (.ex (zBG lcP)) st₂ K) (D st₂)) =
   K (.v (.str (Txt.slice x (some 1) (some (-1))))) ⟨[("item", .str x)], l⟩ := by
  kernel_rfl
theorem zUN (P : Params) (d n : Nat) (rf : List SV → St → Kt → Prop) (b : Str) (f : Int) (kd : Str) (k : Kt) : ev (cfRd P d rf) (n + 294) zAj (.sts kvB) (rdK b f kd) k =
   ifT (Fast.sEq kd "e") (zJj [.str b] (rdK b f kd) (fun r st => match r with
       | .v x => zNJ [x] st (fun r st => match r with
         | .v y => ev (cfRd P d rf) (n + 293) zAj (.sts (kvB.drop 1)) { st with loc := put "told" y st.loc } k
         | _ => False)
       | _ => False))
     (zSM [.str b] (rdK b f kd) (fun r st => match r with
       | .v x => zNJ [x] st (fun r st => match r with
         | .v y => ev (cfRd P d rf) (n + 293) zAj (.sts (kvB.drop 1)) { st with loc := put "told" y st.loc } k
         | _ => False)
       | _ => False)) := by
  kernel_rfl
theorem zTA (P : Params) (d n : Nat) (rf : List SV → St → Kt → Prop) (b : Str) (f : Int) (kd : Str) (l : List SO) (k : Kt) : ev (cfRd P d rf) (n + 293) zAj (.sts (kvB.drop 1)) (rdSt b f [("kind", .str kd), ("told", .obj 1)] l) k =
   (valE = valE ∧ valHk.sp zAj (rdSt b f [("kind", .str kd), ("told", .obj 1)] l) (fun r st => match r with
     | .v x => slT st x (some 1) none fun z st => ev (cfRd P d rf) (n + 292) zAj (.sts (kvB.drop 2)) { st with loc := put "parts" z st.loc } k
     | _ => False)) := by
  kernel_rfl
noncomputable def zNw : Expr → Expr
 | .Compare _ _ (r :: _) _ => r
 | _ => default
noncomputable def rhsE : Expr := zNw (zCt ifR4)
noncomputable def lcK : Expr := binR rhsE
noncomputable def cnK : List (Str × NameKind) := zBE (lcSc lcK).names
noncomputable abbrev zBo (kd : Str) (ps : List PyData) : List (Str × SV) := [("kind", .str kd), ("told", .obj 1), ("parts", .dat (.list ps))]
theorem zSz (P : Params) (d n : Nat) (rf : List SV → St → Kt → Prop) (b : Str) (f : Int) (kd : Str) (ps : List PyData) (l : List SO) (k : Kt) : ev (cfRd P d rf) (n + 292) zAj (.sts (kvB.drop 2)) (rdSt b f (zBo kd ps) l) k =
   (keyE = keyE ∧ keyHk.sp zAj (rdSt b f (zBo kd ps) l) (fun r st => match r with
     | .v x => ev (cfRd P d rf) (n + 289) zAj (.ex rhsE) st fun r st₂ => match r with
       | .v y => cmpA (n + 289) st₂ .NotEq x y fun z => ifT z (ev (cfRd P d rf) (n + 290) zAj (.sts (zAV ifR4)) st₂ (nxt k)) (k .next st₂)
       | _ => False
     | _ => False)) := by
  kernel_rfl
theorem zSx (P : Params) (d n : Nat) (rf : List SV → St → Kt → Prop) (b : Str) (f : Int) (kd : Str) (ps : List PyData) (a a2 : SO) (k : Kt) : ev (cfRd P d rf) (n + 289) zAj (.ex rhsE) (rdSt b f (zBo kd ps) [a, a2]) k =
   ((ps.map svOf).length ≤ sizeLine ∧ (0 : Int) ≤ (ps.map svOf).length ∧ (((ps.map svOf).length : Int)).toNat ≤ sizeLine ∧
   zBZ (zAN cnK (zAp lcK)) none (fun st k => ev (cfRd P d rf) (n + 287) cnK (.ex (zBG lcK)) st k) (.obj 4) ((List.range (((ps.map svOf).length : Int)).toNat).map fun (j : Nat) => SV.int (j : Int)) (.itr (((ps.map svOf).length : Int)).toNat) 5 6 0 ((List.range (((ps.map svOf).length : Int)).toNat).map fun (j : Nat) => SV.int (j : Int))
     ⟨[], [.cell (some (.int f)), a, a2, .list [.str kd], .rng (((ps.map svOf).length : Int)).toNat] ++ [.itr (((ps.map svOf).length : Int)).toNat 0, .list []]⟩
     (fun stE => zAg (zCV b f (zBo kd ps)) 5 6 stE fun v st₁ => addL st₁ (.obj 3) v fun z st₂ => k (.v z) st₂)) := by
  kernel_rfl
theorem zRd (P : Params) (d n : Nat) (rf : List SV → St → Kt → Prop) (i : Int) (l : List SO) (K : Kt) (D : St → Prop) : zAN cnK (zAp lcK) (.int i) ⟨[], l⟩ (fun st₁ => zCo none st₁ fun c st₂ => ifT c (ev (cfRd P d rf) (n + 287) cnK (.ex (zBG lcK)) st₂ K) (D st₂)) =
   (i.natAbs < 4611686018427387904 ∧ (strI i).length ≤ sizeLine ∧ (("k" : Str).length + (strI i).length ≤ sizeLine ∧ K (.v (.str ("k" ++ strI i))) ⟨[("n", .int i)], l⟩)) := by
  kernel_rfl
noncomputable def lcR : Expr := binR (rVal (stAt 3 (zAE s805)))
noncomputable def cnR : List (Str × NameKind) := zBE (lcSc lcR).names
noncomputable abbrev zIz (kd : Str) (ps : List PyData) : List (Str × SV) := [("kind", .str kd), ("parts", .dat (.list ps))]
theorem zRh (P : Params) (d n : Nat) (rf : List SV → St → Kt → Prop) (b : Str) (f : Int) (kd : Str) (ps : List PyData) (k : Kt) : ev (cfRd P d rf) (n + 297) zAj (.sts ((zAE s805).drop 3)) (rdSt b f (zIz kd ps) []) k =
   zBZ (zAN cnR (zAp lcR)) none (fun st k => ev (cfRd P d rf) (n + 293) cnR (.ex (zBG lcR)) st k) (.dat (.list ps)) (ps.map svOf) (.it true (.dat (.list ps))) 2 3 0 (ps.map svOf)
     ⟨[("floors", .obj 0)], [.cell (some (.int f)), .list [.str kd]] ++ [.it true (.dat (.list ps)) 0, .list []]⟩
     (fun stE => zAg (zCV b f (zIz kd ps)) 2 3 stE fun v st₁ => addL st₁ (.obj 1) v fun z st₂ => k (.ret z) st₂) := by
  kernel_rfl
theorem zRg (P : Params) (d n : Nat) (rf : List SV → St → Kt → Prop) (b : Str) (f : Int) (kd : Str) (ps : List PyData) (a a2 a3 a4 : SO) (k : Kt) : ev (cfRd P d rf) (n + 297) zAj (.sts ((zAE s805).drop 3)) (rdSt b f (zBo kd ps) [a, a2, a3, a4]) k =
   zBZ (zAN cnR (zAp lcR)) none (fun st k => ev (cfRd P d rf) (n + 293) cnR (.ex (zBG lcR)) st k) (.dat (.list ps)) (ps.map svOf) (.it true (.dat (.list ps))) 6 7 0 (ps.map svOf)
     ⟨[("floors", .obj 0)], [.cell (some (.int f)), a, a2, a3, a4, .list [.str kd]] ++ [.it true (.dat (.list ps)) 0, .list []]⟩
     (fun stE => zAg (zCV b f (zBo kd ps)) 6 7 stE fun v st₁ => addL st₁ (.obj 5) v fun z st₂ => k (.ret z) st₂) := by
  kernel_rfl
theorem zTB (P : Params) (d n : Nat) (rf : List SV → St → Kt → Prop) (x : SV) (f : Int) (l : List SO) (K : Kt) (D : St → Prop) : zAN cnR (zAp lcR) x ⟨[("floors", .obj 0)], .cell (some (.int f)) :: l⟩ (fun st₁ => zCo none st₁ fun c st₂ => ifT c (ev (cfRd P d rf) (n + 293) cnR (.ex (zBG lcR)) st₂ K) (D st₂)) =
   zDC (cfRd P d rf) (n + 292) (ev (cfRd P d rf) (n + 292)) 805 [x, .int (f - 1)] ⟨[("floors", .obj 0), ("part", x)], .cell (some (.int f)) :: l⟩ K := by
  kernel_rfl
theorem zOh (x : Str) (l : Option Int) : Txt.slice x l none = Txt.slice x l (some (x.length : Int)) := by
 unfold Txt.slice; rw [StrLaws.sliceIdx_none_hi]
theorem zOg (x : Str) (u : Option Int) : Txt.slice x none u = Txt.slice x (some 0) u := by
 unfold Txt.slice; rw [StrLaws.sliceIdx_none_lo]
theorem zOf (x : Str) (l : Option Int) {j : Int} (h0 : j < 0) (h1 : -(x.length : Int) ≤ j) : Txt.slice x l (some j) = Txt.slice x l (some (j + x.length)) := by
 unfold Txt.slice; rw [StrLaws.sliceIdx_neg_hi l x.length h0 h1]
theorem zOe (l : List Nat) {n : Nat} (h : n ≤ l.length) : Txt.slice (tx l) none (some (n : Int)) = tx (l.take n) := by
 rw [zOg]
 have := zEZ l (a := 0) (b := n) (Nat.zero_le _) h
 rw [show (((0 : Nat) : Int)) = 0 from rfl] at this
 rw [this, List.drop_zero, Nat.sub_zero]
theorem zKn (l : List Nat) {n : Nat} (h : n ≤ l.length) : Txt.slice (tx l) (some (n : Int)) none = tx (l.drop n) := by
 rw [zOh, zAF, zEZ l h (Nat.le_refl _)]
 have : l.length - n = (l.drop n).length := by rw [List.length_drop]
 rw [this, List.take_length]
theorem zHk (a z : Nat) (l : List Nat) : Txt.slice (tx (a :: (l ++ [z]))) (some 1) (some (-1)) = tx l := by
 rw [zOf _ _ (by lia) (by rw [zAF, List.length_cons]; lia), zAF]
 have e : (-1 : Int) + ((a :: (l ++ [z])).length : Nat) = ((l.length + 1 : Nat) : Int) := by
  simp only [List.length_cons, List.length_append, List.length_nil]; lia
 rw [e, show (1 : Int) = ((1 : Nat) : Int) from rfl, zEZ _ (by lia) (by simp)]
 rw [List.drop_succ_cons, List.drop_zero, Nat.add_sub_cancel, List.take_left]
theorem zNb (c : Nat) (r : List Nat) : Txt.slice (tx (c :: r)) none (some 1) = tx [c] := by
 rw [show (1 : Int) = ((1 : Nat) : Int) from rfl, zOe _ (by simp)]; rfl
theorem zQs (c : Nat) (r : List Nat) : Txt.slice (tx (c :: r)) (some 1) none = tx r := by
 rw [show (1 : Int) = ((1 : Nat) : Int) from rfl, zKn _ (by simp)]; rfl
noncomputable def Thru (wr td : List Nat) : Prop := ∀ tail p res, hl (wr ++ tail) false false p res = hl tail false false (p ++ td) res
theorem zCh : ∀ w : List Nat, (∀ c ∈ w, c ≠ 34 ∧ c ≠ 44) → Thru w w
 | [], _, tail, p, res => by rw [List.nil_append, List.append_nil]
 | c :: r, h, tail, p, res => by
  obtain ⟨h1, h2⟩ := h c (.head _)
  rw [List.cons_append]
  conv => lhs; unfold hl
  rw [if_neg (by decide), if_neg (by decide), if_neg h2, if_neg h1]
  rw [zCh r (fun d hd => h d (.tail _ hd)) tail (p ++ [c]) res, List.append_assoc]; rfl
theorem zOP {a b c d : List Nat} (h1 : Thru a b) (h2 : Thru c d) : Thru (a ++ c) (b ++ d) := fun tail p res => by
 rw [List.append_assoc, h1, h2, List.append_assoc]
theorem zNa (tail : List Nat) (res : List (List Nat)) : ∀ (t p : List Nat), hl (escS t ++ 34 :: tail) false true p res = hl tail false false (p ++ t ++ [34]) res
 | [], p => by
  show hl (34 :: tail) false true p res = _
  conv => lhs; unfold hl
  rw [if_neg (by decide), if_pos rfl, if_neg (by decide), if_pos rfl, List.append_nil]
 | c :: r, p => by
  have e : escS (c :: r) = (if c = 34 ∨ c = 92 then [92, c] else [c]) ++ escS r := rfl
  rw [e]
  by_cases hc : c = 34 ∨ c = 92
  ·rw [if_pos hc]
   show hl (92 :: c :: (escS r ++ 34 :: tail)) false true p res = _
   conv => lhs; unfold hl
   rw [if_neg (by decide), if_pos rfl, if_pos rfl]
   conv => lhs; unfold hl
   rw [if_pos rfl, zNa tail res r (p ++ [c])]
   simp
  ·rw [if_neg hc]
   show hl (c :: (escS r ++ 34 :: tail)) false true p res = _
   conv => lhs; unfold hl
   rw [if_neg (by decide), if_pos rfl, if_neg (fun e => hc (.inr e)), if_neg (fun e => hc (.inl e)), zNa tail res r (p ++ [c])]
   simp
theorem zHa (t : List Nat) : Thru (zAm t) (quo t) := fun tail p res => by
 have e : zAm t ++ tail = 34 :: (escS t ++ 34 :: tail) := by simp [zAm]
 rw [e]
 conv => lhs; unfold hl
 rw [if_neg (by decide), if_neg (by decide), if_neg (by decide), if_pos rfl, zNa]
 simp [quo]
theorem zNZ : ∀ (r : List (List Nat × List Nat)) (x : List Nat × List Nat) (p : List Nat) (res : List (List Nat)), (∀ y ∈ x :: r, Thru y.1 y.2) →
  ∃ a z, hl (zBF [44, 32] ((x :: r).map (·.1))) false false p res = (res ++ a, z) ∧ a ++ [z] = (p ++ x.2) :: r.map fun y => 32 :: y.2
 | [], x, p, res, h => by
  refine ⟨[], p ++ x.2, ?_, rfl⟩
  have := h x (.head _) [] p res
  rw [List.append_nil] at this
  show hl x.1 false false p res = _
  rw [this, List.append_nil]; rfl
 | y :: r, x, p, res, h => by
  obtain ⟨a, z, h1, h2⟩ := zNZ r y [32] (res ++ [p ++ x.2]) fun u hu => h u (.tail _ hu)
  refine ⟨(p ++ x.2) :: a, z, ?_, ?_⟩
  ·show hl (x.1 ++ ([44, 32] ++ zBF [44, 32] ((y :: r).map (·.1)))) false false p res = _
   rw [h x (.head _)]
   show hl (44 :: 32 :: zBF [44, 32] ((y :: r).map (·.1))) false false (p ++ x.2) res = _
   conv => lhs; unfold hl
   rw [if_neg (by decide), if_neg (by decide), if_pos rfl]
   conv => lhs; unfold hl
   rw [if_neg (by decide), if_neg (by decide), if_neg (by decide), if_neg (by decide)]
   show hl _ false false [32] _ = _
   rw [h1, List.append_assoc]; rfl
  ·rw [List.cons_append, h2]; rfl
noncomputable def zLb (y : List Nat) : Prop := (∃ c r, y = c :: r ∧ Unicode.isSpace c = false) ∧ (∃ r z, y = r ++ [z] ∧ Unicode.isSpace z = false)
theorem zJf {y : List Nat} (h : zLb y) : (y.reverse.takeWhile Unicode.isSpace).length = 0 := by
 obtain ⟨_, r, z, rfl, hz⟩ := h
 rw [List.reverse_append]
 show (List.takeWhile _ (z :: r.reverse)).length = 0
 rw [List.takeWhile_cons, hz]; rfl
theorem zIr {y : List Nat} (h : zLb y) : Txt.strip (tx y) = tx y := by
 obtain ⟨⟨c, r, e, hc⟩, _⟩ := id h
 have lo : stripLo Unicode.isSpace true (tx y) = 0 := by
  show ((tx y).cps.toList.takeWhile Unicode.isSpace).length = 0
  rw [zBh, e, List.takeWhile_cons, hc]; rfl
 have hi : stripHi Unicode.isSpace true (tx y) 0 = (tx y).length := by
  show (tx y).length - (((tx y).cps.toList.drop 0).reverse.takeWhile Unicode.isSpace).length = _
  rw [zBh, List.drop_zero, zJf h]; rfl
 have : stripSame Unicode.isSpace true true (tx y) = true := by
  unfold stripSame
  rw [lo, hi]; simp
 show Txt.stripBy Unicode.isSpace true true (tx y) = _
 unfold Txt.stripBy
 rw [if_pos this]
theorem zIs {y : List Nat} (h : zLb y) : Txt.strip (tx (32 :: y)) = tx y := by
 obtain ⟨⟨c, r, e, hc⟩, _⟩ := id h
 have h32 : Unicode.isSpace 32 = true := by decide +kernel
 have lo : stripLo Unicode.isSpace true (tx (32 :: y)) = 1 := by
  show ((tx (32 :: y)).cps.toList.takeWhile Unicode.isSpace).length = 1
  rw [zBh, List.takeWhile_cons, h32, e]
  simp [hc]
 have hi : stripHi Unicode.isSpace true (tx (32 :: y)) 1 = (tx (32 :: y)).length := by
  show (tx (32 :: y)).length - (((tx (32 :: y)).cps.toList.drop 1).reverse.takeWhile Unicode.isSpace).length = _
  rw [zBh]
  show _ - ((y.reverse.takeWhile Unicode.isSpace).length) = _
  rw [zJf h]; rfl
 have : stripSame Unicode.isSpace true true (tx (32 :: y)) = false := by
  unfold stripSame
  rw [lo]; rfl
 show Txt.stripBy Unicode.isSpace true true (tx (32 :: y)) = _
 unfold Txt.stripBy
 rw [if_neg (by rw [this]; decide)]
 unfold PySem.stripped
 rw [lo, hi]
 refine zEr ?_
 rw [StrLaws.strSub_toList, zBh, zAF]
 show List.take _ y = y
 rw [List.length_cons, Nat.add_sub_cancel, List.take_length]
theorem zFR (x : List Nat × List Nat) (r : List (List Nat × List Nat)) (h : ∀ y ∈ x :: r, Thru y.1 y.2) (ht : ∀ y ∈ x :: r, zLb y.2) :
  zBO (zBF [44, 32] ((x :: r).map (·.1))) = (x :: r).map fun y => tx y.2 := by
 obtain ⟨a, z, h1, h2⟩ := zNZ r x [] [] h
 rw [List.nil_append] at h1 h2
 have hz : z ≠ [] := by
  have hm : z ∈ x.2 :: r.map fun y => 32 :: y.2 := by rw [← h2]; simp
  rcases List.mem_cons.mp hm with e | hm
  ·obtain ⟨⟨c, q, e2, _⟩, _⟩ := ht x (.head _)
   rw [e, e2]; exact List.cons_ne_nil _ _
  ·obtain ⟨y, _, e⟩ := List.mem_map.mp hm
   rw [← e]; exact List.cons_ne_nil _ _
 have hp : zBz (zBF [44, 32] ((x :: r).map (·.1))) = x.2 :: r.map fun y => 32 :: y.2 := by
  unfold zBz
  rw [h1]
  dsimp only
  rw [if_neg hz, h2]
 unfold zBO
 rw [hp, List.map_cons, List.map_cons, zIr (ht x (.head _)), List.map_map]
 congr 1
 refine List.map_congr_left fun y hy => ?_
 exact zIs (ht y (.tail _ hy))
theorem zHi (x : Str) : 1 ≤ PySem.Builtin.Str.strKind x := by
 unfold PySem.Builtin.Str.strKind
 split
 ·exact Nat.le_refl _
 ·split <;> decide
theorem zEs (key v : List Nat) (hk : 61 ∉ key) : Txt.splitMax (tx (key ++ 61 :: v)) "=" 1 = [tx key, tx v] := by
 have e1 : ("=" : Str) = (⟨#[61]⟩ : Str) := by rfl
 have hlen : (tx (key ++ 61 :: v)).length = key.length + 1 + v.length := by rw [zAF]; simp; lia
 rw [e1]
 unfold Txt.splitMax
 have h1 : (decide ((tx (key ++ 61 :: v)).length < (⟨#[61]⟩ : Str).length) || decide (PySem.Builtin.Str.strKind (tx (key ++ 61 :: v)) < PySem.Builtin.Str.strKind ⟨#[61]⟩)) = false := by
  have a : ¬ (tx (key ++ 61 :: v)).length < (⟨#[61]⟩ : Str).length := by rw [hlen]; show ¬ _ < 1; lia
  have b : ¬ PySem.Builtin.Str.strKind (tx (key ++ 61 :: v)) < PySem.Builtin.Str.strKind ⟨#[61]⟩ := by
   have := zHi (tx (key ++ 61 :: v))
   have e : PySem.Builtin.Str.strKind ⟨#[61]⟩ = 1 := by decide +kernel
   rw [e]; lia
  rw [decide_eq_false a, decide_eq_false b]; rfl
 rw [if_neg (by rw [h1]; decide)]
 have hlim : PySem.limitOf (tx (key ++ 61 :: v)) 1 = 1 := by rfl
 rw [hlim]
 have at_iff : ∀ i, StrLaws.At (tx (key ++ 61 :: v)) ⟨#[61]⟩ (tx (key ++ 61 :: v)).length i ↔ (key ++ 61 :: v)[i]? = some 61 := fun i => by
  have := StrLaws.subAt_one (tx (key ++ 61 :: v)) 61 i
  rw [zBh] at this
  exact this
 have hat : (key ++ 61 :: v)[key.length]? = some 61 := by simp
 have hnot : ∀ i, i < key.length → (key ++ 61 :: v)[i]? ≠ some 61 := fun i hi e => by
  rw [List.getElem?_append_left hi] at e
  exact hk (List.mem_of_getElem? e)
 have hone := StrLaws.occ_length_le (tx (key ++ 61 :: v)) ⟨#[61]⟩ 0 (tx (key ++ 61 :: v)).length 1
 rcases StrLaws.occ_head (tx (key ++ 61 :: v)) ⟨#[61]⟩ 1 (Nat.le_refl 1) with ⟨_, hn⟩ | ⟨i, r, ho, ha, hn⟩
 ·exact absurd ((at_iff _).mpr hat) (hn _)
 ·rw [ho] at hone
  have hr : r = [] := List.eq_nil_of_length_eq_zero (by rw [List.length_cons] at hone; lia)
  have hi : i = key.length := by
   rcases Nat.lt_trichotomy i key.length with q | q | q
   ·exact absurd ((at_iff i).mp ha) (hnot i q)
   ·exact q
   ·exact absurd ((at_iff _).mpr hat) (hn _ q)
  subst hr hi
  rw [ho]
  rw [if_neg (by simp)]
  show [PySem.Builtin.Str.strSub (tx (key ++ 61 :: v)) 0 key.length, PySem.Builtin.Str.strSub (tx (key ++ 61 :: v)) (key.length + 1) (tx (key ++ 61 :: v)).length] = _
  have s1 : PySem.Builtin.Str.strSub (tx (key ++ 61 :: v)) 0 key.length = tx key := by
   refine zEr ?_
   rw [StrLaws.strSub_toList, zBh, List.drop_zero, Nat.sub_zero, List.take_left]
  have s2 : PySem.Builtin.Str.strSub (tx (key ++ 61 :: v)) (key.length + 1) (tx (key ++ 61 :: v)).length = tx v := by
   refine zEr ?_
   rw [StrLaws.strSub_toList, zBh]
   have : (key ++ 61 :: v).drop (key.length + 1) = v := by
    rw [← List.drop_drop, List.drop_left]; rfl
   rw [this, hlen, List.take_of_length_le (by lia)]
  rw [s1, s2]
theorem zGV (c : Nat) (r : List Nat) : Txt.item (tx (c :: r)) 0 = tx [c] := by
 unfold Txt.item Txt.charAt
 have : seqIndex? 0 (tx (c :: r)).length = some 0 := by
  rw [zAF]
  unfold seqIndex?
  simp
 rw [this]
 show (⟨#[((tx (c :: r)).cps[0]?).getD 0]⟩ : Str) = _
 simp [tx]
theorem zNL (r : List Nat) (z : Nat) : Txt.item (tx (r ++ [z])) (-1) = tx [z] := by
 unfold Txt.item Txt.charAt
 have : seqIndex? (-1) (tx (r ++ [z])).length = some r.length := by
  rw [StrLaws.seqIndex_neg (by lia) (by rw [zAF, List.length_append]; simp; lia), zAF]
  simp
  lia
 rw [this]
 show (⟨#[((tx (r ++ [z])).cps[r.length]?).getD 0]⟩ : Str) = _
 simp [tx]
theorem zQm (t : List Nat) : unq (tx (quo t)) = tx t := by
 unfold unq quo
 have e1 : Txt.item (tx (34 :: (t ++ [34]))) 0 = tx [34] := zGV _ _
 have e2 : Txt.item (tx (34 :: (t ++ [34]))) (-1) = tx [34] := zNL (34 :: t) 34
 have e3 : Fast.sEq (tx [34]) "\"" = true := by rfl
 rw [e1, e2, e3]
 exact zHk 34 34 t
theorem zQn (c : Nat) (h : c ≠ 34) : unq (tx [c]) = tx [c] := by
 unfold unq
 rw [zGV]
 have e3 : Fast.sEq (tx [c]) "\"" = false := by
  have := zHl c 34
  rw [decide_eq_false h] at this
  exact this
 rw [e3]
theorem zDj : Unicode.isSpace 34 = false := by decide +kernel
theorem zLs (t : List Nat) : zLb (quo t) := ⟨⟨34, t ++ [34], rfl, zDj⟩, ⟨34 :: t, 34, rfl, zDj⟩⟩
theorem zLt (i : Nat) (t : List Nat) : zLb (107 :: (48 + i) :: 61 :: quo t) := ⟨⟨107, _, rfl, by decide +kernel⟩, ⟨107 :: (48 + i) :: 61 :: 34 :: t, 34, by simp [quo], zDj⟩⟩
theorem zOO (i : Nat) (hi : i < 10) (t : List Nat) : Thru (107 :: (48 + i) :: 61 :: zAm t) (107 :: (48 + i) :: 61 :: quo t) := by
 have := zOP (zCh [107, 48 + i, 61] fun c hc => by
  simp only [List.mem_cons, List.not_mem_nil, or_false] at hc
  rcases hc with rfl | rfl | rfl
  ·decide
  ·lia
  ·decide) (zHa t)
 exact this
noncomputable def keyN (i : Nat) : List Nat := [107, 48 + i]
noncomputable def zET (c : Nat) (ts : List (List Nat)) : List (Str × Str) := (tx [c], tx [c]) :: (List.range ts.length).map fun i => (tx (keyN i), tx (quo (ts.getD i [])))
noncomputable def zCq (c : Nat) (n : Nat) : List (List Nat) := [c] :: (List.range n).map keyN
theorem zPV (f : List Nat → List Nat) (ts : List (List Nat)) : zAi f ts = (List.range ts.length).map fun i => keyN i ++ 61 :: f (ts.getD i []) := rfl
theorem zPw {a b : List Nat} (h : tx a = tx b) : a = b := by
 have := congrArg (fun s : Str => s.cps.toList) h
 simpa [tx] using this
theorem zSA (c : Nat) (hc : c = 100 ∨ c = 101) (ts : List (List Nat)) (hn : ts.length ≤ 10) (hb : ∀ t ∈ ts, t.length ≤ 90000) : KvOk ((([c, 61, c]) :: zAi quo ts).map tx) (zET c ts) := by
 have h61 : c ≠ 61 := by rcases hc with rfl | rfl <;> decide
 refine .cons (zEs [c] [c] (by simp; lia)) (by rw [zAF]; show 1 ≠ 0; decide) (by rw [zAF]; show 3 ≤ 1000000; decide) (by rw [zAF]; show 1 ≤ 1000000; decide) ?_
 rw [zPV, List.map_map]
 have key : ∀ l : List Nat, (∀ i ∈ l, i < ts.length) → KvOk (l.map (tx ∘ fun i => keyN i ++ 61 :: quo (ts.getD i []))) (l.map fun i => (tx (keyN i), tx (quo (ts.getD i [])))) := by
  intro l
  induction l with
  | nil => intro _; exact .nil
  | cons i r ih =>
   intro h
   have hi := h i (.head _)
   have hg : ts.getD i [] = ts[i] := by simp [hi]
   have hl := hb ts[i] (List.getElem_mem hi)
   refine .cons (zEs (keyN i) _ (by simp [keyN]; lia)) ?_ ?_ ?_ (ih fun j hj => h j (.tail _ hj))
   ·rw [zAF]; simp [quo]
   ·show (tx (keyN i ++ 61 :: quo (ts.getD i []))).length ≤ _
    rw [hg, zAF]; simp [quo, keyN]; lia
   ·rw [hg, zAF]; simp [quo]; lia
 exact key _ fun i hi => List.mem_range.mp hi
theorem zMb {α : Type} (k : Str) (v : α) : ∀ fs : List (Str × α), (∀ p ∈ fs, p.1 ≠ k) → put k v fs = fs ++ [(k, v)]
 | [], _ => rfl
 | (y, a) :: r, h => by
  unfold put
  cases q : Fast.sEq k y with
  | true => exact absurd (zAQ q).symm (h (y, a) (.head _))
  | false =>
   show (y, a) :: put k v r = (y, a) :: (r ++ [(k, v)])
   rw [zMb k v r fun p hp => h p (.tail _ hp)]
theorem zKI : ∀ (kvs fs : List (Str × Str)), (kvs.map (·.1)).Nodup → (∀ p ∈ fs, ∀ q ∈ kvs, p.1 ≠ q.1) → dput kvs fs = fs ++ kvs.map fun p => (p.1, unq p.2)
 | [], fs, _, _ => (List.append_nil fs).symm
 | (k, v) :: r, fs, nd, h => by
  rw [List.map_cons, List.nodup_cons] at nd
  unfold dput
  rw [zMb k _ fs fun p hp => h p hp (k, v) (.head _), zKI r _ nd.2 fun p hp q hq => ?_]
  ·rw [List.append_assoc]; rfl
  ·rcases List.mem_append.mp hp with hp | hp
   ·exact h p hp q (.tail _ hq)
   ·rw [List.mem_singleton.mp hp]
    exact fun e => nd.1 (List.mem_map.mpr ⟨q, hq, e.symm⟩)
theorem zPU (c : Nat) (ts : List (List Nat)) : (zET c ts).map (·.1) = (zCq c ts.length).map tx := by
 unfold zET zCq
 rw [List.map_cons, List.map_cons, List.map_map, List.map_map]; rfl
theorem zJH (c n : Nat) : (zCq c n).Nodup := by
 unfold zCq
 refine List.nodup_cons.mpr ⟨fun h => ?_, ?_⟩
 ·obtain ⟨i, _, e⟩ := List.mem_map.mp h
  cases e
 ·have : ∀ l : List Nat, l.Nodup → (l.map keyN).Nodup := by
   intro l
   induction l with
   | nil => intro _; exact List.nodup_nil
   | cons i r ih =>
    intro h
    rw [List.nodup_cons] at h
    refine List.nodup_cons.mpr ⟨fun hm => ?_, ih h.2⟩
    obtain ⟨j, hj, e⟩ := List.mem_map.mp hm
    have : j = i := by
     unfold keyN at e
     simp at e
     exact e
    exact h.1 (this ▸ hj)
  exact this _ List.nodup_range
theorem zJw : ∀ l : List (List Nat), l.Nodup → (l.map tx).Nodup
 | [], _ => List.nodup_nil
 | x :: r, h => by
  rw [List.nodup_cons] at h
  refine List.nodup_cons.mpr ⟨fun hm => ?_, zJw r h.2⟩
  obtain ⟨y, hy, e⟩ := List.mem_map.mp hm
  exact h.1 (zPw e ▸ hy)
theorem zPg (ts : List (List Nat)) : (List.range ts.length).map (fun i => ts.getD i []) = ts := by
 have := zHt ts fun _ t => PyData.str (tx t)
 rw [show (fun i => (ts[i]?).map fun t => PyData.str (tx t)) = fun i => (ts[i]?).map (fun t => PyData.str (tx t)) from rfl, zBb] at this
 have h2 : ∀ a b : List (List Nat), (a.map fun t => PyData.str (tx t)) = (b.map fun t => PyData.str (tx t)) → a = b := by
  intro a
  induction a with
  | nil =>
   intro b h
   cases b with
   | nil => rfl
   | cons y r => cases h
  | cons x a ih =>
   intro b h
   cases b with
   | nil => cases h
   | cons y r =>
    rw [List.map_cons, List.map_cons, List.cons.injEq] at h
    have e := zPw (PyData.str.inj h.1)
    rw [e, ih r h.2]
 refine h2 _ _ ?_
 rw [List.map_map]
 exact this.symm
theorem zKJ (c : Nat) (hc : c ≠ 34) (ts : List (List Nat)) : dput (zET c ts) [] = (tx [c], tx [c]) :: (List.range ts.length).map fun i => (tx (keyN i), tx (ts.getD i [])) := by
 rw [zKI _ _ (by rw [zPU]; exact zJw _ (zJH _ _)) (fun p hp => absurd hp List.not_mem_nil), List.nil_append]
 unfold zET
 rw [List.map_cons, List.map_map]
 congr 1
 ·rw [zQn c hc]
 ·refine List.map_congr_left fun i _ => ?_
  show (tx (keyN i), unq (tx (quo (ts.getD i [])))) = _
  rw [zQm]
theorem zNp (c : Nat) (hc : c ≠ 34) (ts : List (List Nat)) : (dput (zET c ts) []).map (·.2) = ([c] :: ts).map tx := by
 rw [zKJ c hc, List.map_cons, List.map_cons, List.map_map]
 congr 1
 conv => rhs; rw [← zPg ts]
 rw [List.map_map]; rfl
theorem zNq (c : Nat) (hc : c ≠ 34) (ts : List (List Nat)) : (dput (zET c ts) []).map (·.1) = (zCq c ts.length).map tx := by
 rw [zKJ c hc]
 unfold zCq
 rw [List.map_cons, List.map_cons, List.map_map, List.map_map]; rfl
noncomputable def lrF (m : Nat) (svs : List SV) (st : St) (k : Kt) : Prop := ∃ dd : PyData, zAs m dd ∧ svs = [.str (tx (wr m dd).1), .int ((m : Int) + 1)] ∧ k (.v (svOf dd)) st
noncomputable abbrev dR (m : Nat) : Nat := 305 + 20 * m
noncomputable def lrSp (m : Nat) : SpE := ⟨805, 2, dR m, lrF m⟩
theorem zLZ (P : Params) (d n : Nat) (rf : List SV → St → Kt → Prop) (evn : List (Str × NameKind) → Tk → St → Kt → Prop) (vs : List SV) (hv : vs.length = 2) (st : St) (k : Kt) (hd : d ≤ n) (h : rf vs st k) : zDC (cfRd P d rf) n evn 805 vs st k := by
 unfold zDC
 rw [hv]
 show (match Nat.ble d n with | true => rf vs st k | false => False)
 rw [Nat.ble_eq_true_of_le hd]
 exact h
theorem zDT {n : Nat} (b : Str) (f : Int) (more : List (Str × SV)) (h : 1 ≤ n) (hm : okF n more) : okF n (zCV b f more) := ⟨by show 0 < n; lia, trivial, trivial, hm⟩
theorem zST {α : Type} (l : List α) : (List.range l.length).filterMap (fun i => l[i]?) = l := by
 have := zBb l fun x => x
 simp only [Option.map_id', List.map_id'] at this
 exact this
theorem zJX {i : Nat} {l0 : Str} {loc : List (Str × SV)} {l : List SO} {es : List PyData} {k : SV → St → Prop} (hl : es.length ≤ 1000) (hs : l[i]? = some (.list [.str l0])) (hk : k (.dat (.list (.str l0 :: es))) ⟨loc, l⟩) : addL ⟨loc, l⟩ (.obj i) (.dat (.list es)) k := by
 unfold addL zAt
 dsimp only
 rw [hs]
 exact ⟨by rw [sizeLine_eq]; show 1 ≤ _; lia, by rw [sizeLine_eq]; show 1 + _ ≤ _; lia, hk⟩
section
variable {P : Params} {n m : Nat} {kids : List PyData} {ts : List (List Nat)} {b kd : Str} {f : Int} {k : Kt}
theorem zQH (hd : dR m ≤ n + 292) (hf : f = (m : Int) + 2) (hk : ∀ x ∈ kids, zAs m x) (hts : ts = kids.map fun x => (wr m x).1) (more : List SO) (loc : List (Str × SV)) (kk : SV → St → Prop) (hn : kids.length ≤ 1000)
    (hmore : ∀ n led, more.length + 1 ≤ n → SosT n led more more) (hloc : okF (more.length + 1) loc) (hkk : kk (.dat (.list kids)) ⟨loc, .cell (some (.int f)) :: more⟩) :
    zBZ (zAN cnR (zAp lcR)) none (fun st k => ev (cfRd P (dR m) (lrF m)) (n + 293) cnR (.ex (zBG lcR)) st k) (.dat (.list (zAJ ts))) ((zAJ ts).map svOf) (.it true (.dat (.list (zAJ ts)))) (more.length + 1) (more.length + 1 + 1) 0 ((zAJ ts).map svOf)
     ⟨[("floors", .obj 0)], (.cell (some (.int f)) :: more) ++ [.it true (.dat (.list (zAJ ts))) 0, .list []]⟩ (fun stE => zAg loc (more.length + 1) (more.length + 1 + 1) stE kk) := by
  have hlen : ts.length = kids.length := by rw [hts, List.length_map]
  refine zBR (pre := .cell (some (.int f)) :: more) (fl := [("floors", .obj 0)]) loc kk (fun i => kids[i]?) (fun n led h => .cons (.cell (.same trivial)) (hmore n led h)) ⟨by show 0 < more.length + 1; lia, trivial⟩ hloc (fun _ _ _ _ => .it (.same trivial)) (fun a b => rfl)
    (by rw [zAL, sizeLine_eq]; lia) (fun i x zs K Dd hx hK' hD => ?_) ?_
  · rw [zBu, Option.map_eq_some_iff] at hx
    obtain ⟨t, ht, rfl⟩ := hx
    rw [hts, List.getElem?_map, Option.map_eq_some_iff] at ht
    obtain ⟨kid, hkid, rfl⟩ := ht
    show zAN cnR (zAp lcR) _ ⟨[("floors", .obj 0)], .cell (some (.int f)) :: (more ++ _)⟩ _
    rw [zTB]
    refine zLZ P (dR m) (n + 292) (lrF m) _ _ rfl _ _ hd ⟨kid, hk kid (List.mem_of_getElem? hkid), ?_, ?_⟩
    · rw [hf]
      have : (m : Int) + 2 - 1 = (m : Int) + 1 := by lia
      rw [this]
    · exact hK' kid hkid [("part", .str (tx (wr m kid).1))] []
  · rw [zAL, hlen, zST]
    exact hkk
theorem zLA (hd : dR m ≤ n + 292) (hf : f = (m : Int) + 2) (hk : ∀ x ∈ kids, zAs m x) (hts : ts = kids.map fun x => (wr m x).1) (hn : kids.length ≤ 10) (hkk : ∀ loc l, k (.ret (.dat (.list (.str kd :: kids)))) ⟨loc, l⟩) :
  ev (cfRd P (dR m) (lrF m)) (n + 297) zAj (.sts ((zAE s805).drop 3)) (rdSt b f (zIz kd (zAJ ts)) []) k := by
 rw [zRh]
 refine zQH (more := [.list [.str kd]]) hd hf hk hts (zCV b f (zIz kd (zAJ ts))) (fun v st₁ => addL st₁ (.obj 1) v fun z st₂ => k (.ret z) st₂) (by lia)
  (fun n led h => .cons (.list (.cons (.same trivial) .nil)) .nil) (zDT _ _ _ (by show 1 ≤ 2; lia) ⟨trivial, trivial, trivial⟩) ?_
 exact zJX (by lia) rfl (hkk _ _)
theorem zKz (hd : dR m ≤ n + 292) (hf : f = (m : Int) + 2) (hk : ∀ x ∈ kids, zAs m x) (hts : ts = kids.map fun x => (wr m x).1) (hn : kids.length ≤ 10) (fs : List (Str × Str)) (N : Nat) (hkk : ∀ loc l, k (.ret (.dat (.list (.str kd :: kids)))) ⟨loc, l⟩) :
  ev (cfRd P (dR m) (lrF m)) (n + 297) zAj (.sts ((zAE s805).drop 3)) (rdSt b f (zBo kd (zAJ ts)) [.dic (dV fs), .gone, .list [.str kd], .rng N]) k := by
 rw [zRg]
 refine zQH (more := [.dic (dV fs), .gone, .list [.str kd], .rng N, .list [.str kd]]) hd hf hk hts (zCV b f (zBo kd (zAJ ts))) (fun v st₁ => addL st₁ (.obj 5) v fun z st₂ => k (.ret z) st₂) (by lia)
  (fun n led h => .cons (.dic (zHO _ _ _)) (.cons .gone (.cons (.list (.cons (.same trivial) .nil)) (.cons .rng (.cons (.list (.cons (.same trivial) .nil)) .nil))))) (zDT _ _ _ (by show 1 ≤ 6; lia) ⟨trivial, by show 1 < 6; lia, trivial, trivial⟩) ?_
 exact zJX (by lia) rfl (hkk _ _)
theorem zRc (hb : LexAll b (.str " ") 1 0 (([115] :: ts).map tx)) (hn : ts.length ≤ 10) (hk : k .next (rdSt b f (zIz kd (zAJ ts)) [])) {d : Nat} {rf : List SV → St → Kt → Prop} : ev (cfRd P d rf) (n + 296) zAj (.sts (zAV ifR2)) (rdK b f kd) k := by
 rw [rd_s]
 refine ⟨_, hb, by rw [List.length_map, List.length_cons, sizeLine_eq]; lia, ?_⟩
 show k .next ⟨put "parts" (.dat (.list (slD ((([115] :: ts).map tx).map .str) (some 1) none))) _, _⟩
 have e : slD ((([115] :: ts).map tx).map PyData.str) (some 1) none = zAJ ts := by
  rw [show (1 : Int) = ((1 : Nat) : Int) from rfl, zEa, List.map_cons, List.map_cons, List.drop_succ_cons, List.drop_zero, List.map_map]; rfl
 rw [e]
 exact hk
theorem zRf (hb : zBO b.cps.toList = tx [104] :: ts.map fun t => tx (quo t)) (hbl : b.length ≤ 1000000) (hn : ts.length ≤ 10) (hk : k .next (rdSt b f (zIz kd (zAJ ts)) [])) {d : Nat} {rf : List SV → St → Kt → Prop} : ev (cfRd P d rf) (n + 294) zAj (.sts (zAV ifR3)) (rdK b f kd) k := by
 rw [rd_h]
 have e : slD ((zBO b.cps.toList).map PyData.str) (some 1) none = zAJ (ts.map quo) := by
  rw [hb, show (1 : Int) = ((1 : Nat) : Int) from rfl, zEa, List.map_cons, List.drop_succ_cons, List.drop_zero, List.map_map]
  unfold zAJ
  rw [List.map_map]; rfl
 rw [e]
 refine ⟨hbl, ?_⟩
 refine zBR (pre := [.cell (some (.int f))]) (fl := []) (zCV b f [("kind", .str kd)]) (fun y st => k .next { st with loc := put "parts" y st.loc }) (fun i => (ts[i]?).map fun t => .str (tx t)) (fun n led h => .cons (.cell (.same trivial)) .nil) trivial (zDT _ _ _ (Nat.le_refl 1) ⟨trivial, trivial⟩) (fun _ _ _ _ => .it (.same trivial)) (fun a b => rfl)
  (by rw [zAL, List.length_map, sizeLine_eq]; lia) (fun i x zs K Dd hx hK' hD => ?_) ?_
 ·rw [zBu, Option.map_eq_some_iff] at hx
  obtain ⟨q, hq, rfl⟩ := hx
  rw [List.getElem?_map, Option.map_eq_some_iff] at hq
  obtain ⟨t, ht, rfl⟩ := hq
  show zAN cnP (zAp lcP) (.str (tx (quo t))) ⟨[], _⟩ _
  rw [zRe]
  have hs := hK' (.str (tx t)) (by rw [ht]; rfl) [("item", .str (tx (quo t)))] []
  have e2 : Txt.slice (tx (quo t)) (some 1) (some (-1)) = tx t := zHk 34 34 t
  rw [e2]
  exact hs
 ·rw [zAL, List.length_map, zBc]
  have : ts.map (fun t => t) = ts := List.map_id' ts
  rw [this]
  exact hk
end
theorem zMy (b : Str) (f : Int) (kd : Str) (more : List (Str × SV)) : lk "told" (zCV b f (("kind", .str kd) :: ("told", .obj 1) :: more)) = some (.obj 1) := by kernel_rfl
theorem zMa (b : Str) (f : Int) (kd : Str) (z : SV) : put "parts" z (zCV b f [("kind", .str kd), ("told", .obj 1)]) = zCV b f [("kind", .str kd), ("told", .obj 1), ("parts", z)] := by kernel_rfl
theorem zPC (b : Str) (f : Int) (kd : Str) (z : SV) : put "told" z (zCV b f [("kind", .str kd)]) = zCV b f [("kind", .str kd), ("told", z)] := by kernel_rfl
theorem zFf : ∀ l : List (List Nat), (∀ x ∈ l, ∀ c ∈ x, c < 0x110000) → PyData.canLayAll0 (zAJ l) = true
 | [], _ => rfl
 | x :: r, h => by
  show (PyData.canLay0 (.str (tx x)) && PyData.canLayAll0 (zAJ r)) = true
  rw [zFf r fun y hy => h y (.tail _ hy), Bool.and_true]
  show PyData.strOk (tx x) = true
  unfold PyData.strOk
  rw [← Array.all_toList, List.all_eq_true]
  intro c hc
  rw [zBh] at hc
  exact decide_eq_true (h x (.head _) c hc)
theorem zKd : ∀ l : List (List Nat), PyData.depth (.list (zAJ l)) ≤ 2 := by
 intro l
 have : ∀ l : List (List Nat), PyData.depthAll (zAJ l) ≤ 1 := by
  intro l
  induction l with
  | nil => exact Nat.zero_le _
  | cons x r ih =>
   show max (PyData.depth (.str (tx x))) (PyData.depthAll (zAJ r)) ≤ 1
   exact Nat.max_le.mpr ⟨by first | exact Nat.zero_le _ | exact Nat.le_refl _ | decide, ih⟩
 have h := this l
 rw [PyData.depth]
 lia
theorem zSe (n : Nat) (st : St) (d : PyData) (y : SV) (k : Bool → Prop) : cmpA n st .NotEq (.dat d) y k = eqD n st (.dat d) y (fun c => k (!c)) := rfl
theorem zQV (fs : List (Str × Str)) : (dV fs).length = fs.length := List.length_map _
theorem zNi : ∀ fs : List (Str × Str), frzs ((dV fs).map fun p : Str × SV => p.2) = some (fs.map fun p => PyData.str p.2)
 | [] => rfl
 | (x, v) :: r => by
  show (match frz1 (.str v) with | some d => (match frzs ((dV r).map fun p : Str × SV => p.2) with | some ds => some (d :: ds) | none => none) | none => none) = _
  rw [zNi r]; rfl
section
variable {P : Params} {n d : Nat} {rf : List SV → St → Kt → Prop} {ts : List (List Nat)} {b : Str} {f : Int} {k : Kt}
theorem zKy (c : Nat) (hc : c = 100 ∨ c = 101) (hn : ts.length ≤ 10)
  (hk : k .next (rdSt b f (zBo (tx [c]) (zAJ ts)) [.dic (dV (dput (zET c ts) [])), .gone, .list [.str (tx [c])], .rng ts.length])) :
  ev (cfRd P d rf) (n + 293) zAj (.sts (kvB.drop 1)) (rdSt b f [("kind", .str (tx [c])), ("told", .obj 1)] [.dic (dV (dput (zET c ts) [])), .gone]) k := by
 have hc34 : c ≠ 34 := by rcases hc with rfl | rfl <;> decide
 have hvals := zNp c hc34 ts
 have hkeys := zNq c hc34 ts
 generalize hfs : dput (zET c ts) [] = fs at *
 have hfl : fs.length = ts.length + 1 := by
  have := congrArg List.length hvals
  rw [List.length_map, List.length_map, List.length_cons] at this
  exact this
 rw [zTA]
 have ev1 : fs.map (fun p => PyData.str p.2) = zAJ ([c] :: ts) := by
  have := congrArg (List.map PyData.str) hvals
  rw [List.map_map, List.map_map] at this
  exact this
 refine ⟨rfl, rfl, dV fs, zAJ ([c] :: ts), zMy _ _ _ _, rfl, by rw [zQV]; lia, by rw [zNi, ev1], ?_⟩
 show ev (cfRd P d rf) (n + 292) zAj (.sts (kvB.drop 2)) ⟨put "parts" (.dat (.list (slD (zAJ ([c] :: ts)) (some 1) none))) (zCV b f [("kind", .str (tx [c])), ("told", .obj 1)]), [.cell (some (.int f)), .dic (dV fs), .gone]⟩ k
 have esl : slD (zAJ ([c] :: ts)) (some 1) none = zAJ ts := by
  rw [show (1 : Int) = ((1 : Nat) : Int) from rfl, zEa]; rfl
 rw [esl, zMa]
 show ev (cfRd P d rf) (n + 292) zAj (.sts (kvB.drop 2)) (rdSt b f (zBo (tx [c]) (zAJ ts)) [.dic (dV fs), .gone]) k
 rw [zSz]
 have ev2 : (dV fs).map (fun p => PyData.str p.1) = zAJ (zCq c ts.length) := by
  have := congrArg (List.map PyData.str) hkeys
  rw [List.map_map, List.map_map] at this
  unfold dV
  rw [List.map_map]
  exact this
 have hkb : ∀ p ∈ dV fs, p.1.length ≤ sizeLine := fun p hp => by
  have hm : PyData.str p.1 ∈ zAJ (zCq c ts.length) := by
   rw [← ev2]; exact List.mem_map.mpr ⟨p, hp, rfl⟩
  obtain ⟨y, hy, e⟩ := List.mem_map.mp hm
  rw [← PyData.str.inj e, zAF, sizeLine_eq]
  unfold zCq at hy
  rcases List.mem_cons.mp hy with rfl | hy
  ·show 1 ≤ _; lia
  ·obtain ⟨i, _, rfl⟩ := List.mem_map.mp hy
   show 2 ≤ _; lia
 refine ⟨rfl, rfl, dV fs, zMy _ _ _ _, rfl, by rw [zQV]; lia, hkb, ?_⟩
 rw [ev2]
 show ev (cfRd P d rf) (n + 289) zAj (.ex rhsE) (rdSt b f (zBo (tx [c]) (zAJ ts)) [.dic (dV fs), .gone]) _
 rw [zSx]
 have eN : (((zAJ ts).map svOf).length : Int).toNat = ts.length := by rw [zAL]; rfl
 refine ⟨by rw [zAL, sizeLine_eq]; lia, by lia, by rw [eN, sizeLine_eq]; lia, ?_⟩
 rw [eN]
 refine zBR (pre := [.cell (some (.int f)), .dic (dV fs), .gone, .list [.str (tx [c])], .rng ts.length]) (fl := []) (zCV b f (zBo (tx [c]) (zAJ ts))) _ (fun i => some (.str (tx (keyN i))))
  (fun n led h => .cons (.cell (.same trivial)) (.cons (.dic (zHO _ _ _)) (.cons .gone (.cons (.list (.cons (.same trivial) .nil)) (.cons .rng .nil))))) trivial (zDT _ _ _ (by show 1 ≤ 5; lia) ⟨trivial, by show 1 < 5; lia, trivial, trivial⟩) (fun _ _ _ _ => .itr) (fun a b => rfl)
  (by rw [List.length_map, List.length_range, sizeLine_eq]; lia) (fun i x zs K Dd hx hK' hD => ?_) ?_
 ·rw [List.getElem?_map, Option.map_eq_some_iff] at hx
  obtain ⟨j, hj, rfl⟩ := hx
  obtain ⟨hj1, hj2⟩ := List.getElem?_eq_some_iff.mp hj
  rw [List.getElem_range] at hj2
  rw [List.length_range] at hj1
  subst hj2
  show zAN cnK (zAp lcK) (.int i) ⟨[], _⟩ _
  rw [zRd, zDk (by lia : i < 10)]
  have e1 : ("k" : Str) = tx [107] := by rfl
  rw [e1, zAP]
  exact ⟨by lia, by rw [zAF, sizeLine_eq]; show 1 ≤ _; lia, by rw [zAF, zAF, sizeLine_eq]; show 1 + 1 ≤ _; lia, hK' (.str (tx (keyN i))) rfl [("n", .int i)] []⟩
 ·rw [List.length_map, List.length_range]
  have ef : (List.range ts.length).filterMap (fun i => some (PyData.str (tx (keyN i)))) = zAJ ((List.range ts.length).map keyN) := by
   rw [List.filterMap_eq_map']
   unfold zAJ
   rw [List.map_map]; rfl
  rw [ef]
  refine zJX (by rw [zDG, List.length_map, List.length_range]; lia) rfl ?_
  show cmpA (n + 289) _ .NotEq (.dat (.list (zAJ (zCq c ts.length)))) (.dat (.list (zAJ (zCq c ts.length)))) _
  rw [zSe]
  have hlay : PyData.canLay0 (.list (zAJ (zCq c ts.length))) = true := by
   refine zFf _ fun x hx q hq => ?_
   unfold zCq at hx
   rcases List.mem_cons.mp hx with rfl | hx
   ·rw [List.mem_singleton.mp hq]
    rcases hc with rfl | rfl <;> decide
   ·obtain ⟨i, hi, rfl⟩ := List.mem_map.mp hx
    rw [List.mem_range] at hi
    simp only [keyN, List.mem_cons, List.not_mem_nil, or_false] at hq
    rcases hq with rfl | rfl
    ·decide
    ·lia
  refine zNo (d := .list (zAJ (zCq c ts.length))) (e := .list (zAJ (zCq c ts.length))) rfl rfl (by lia) hlay hlay (by rw [Nat.min_self]; have := zKd (zCq c ts.length); lia) ?_
  rw [PySem.SeqAt.eqv_refl _ hlay]
  exact hk
theorem zJp (c : Nat) (hc : c = 100 ∨ c = 101) (hn : ts.length ≤ 10) (hb : ∀ t ∈ ts, t.length ≤ 90000) (h1 : c = 101 → LexAll b (.str " ") 1 0 (([c, 61, c] :: zAi quo ts).map tx)) (h2 : c = 100 → b.length ≤ 1000000 ∧ zBO b.cps.toList = ([c, 61, c] :: zAi quo ts).map tx)
    (hk : k .next (rdSt b f (zBo (tx [c]) (zAJ ts)) [.dic (dV (dput (zET c ts) [])), .gone, .list [.str (tx [c])], .rng ts.length])) :
    ev (cfRd P d rf) (n + 294) zAj (.sts kvB) (rdK b f (tx [c])) k := by
  rw [zUN]
  have fin : zNJ [.dat (.list ((([c, 61, c] :: zAi quo ts).map tx).map .str))] (rdK b f (tx [c])) (fun r st => match r with
         | .v y => ev (cfRd P d rf) (n + 293) zAj (.sts (kvB.drop 1)) { st with loc := put "told" y st.loc } k
         | _ => False) := by
    refine ⟨_, _, rfl, zSA c hc ts hn hb, by rw [List.length_map, List.length_cons, zAr]; omega, ?_⟩
    show ev (cfRd P d rf) (n + 293) zAj (.sts (kvB.drop 1)) ⟨put "told" (.obj 1) (zCV b f [("kind", .str (tx [c]))]), [.cell (some (.int f)), .dic (dV (dput (zET c ts) [])), .gone]⟩ k
    rw [zPC]
    exact zKy c hc hn hk
  refine zAv (fun q => ?_) fun q => ?_
  · have h101 : c = 101 := by
      have : Fast.sEq (tx [c]) "e" = decide (c = 101) := zHl c 101
      rw [this] at q; exact of_decide_eq_true q
    exact ⟨_, h1 h101, by rw [List.length_map, List.length_cons, zAr, sizeLine_eq]; omega, fin⟩
  · have h100 : c = 100 := by
      have : Fast.sEq (tx [c]) "e" = decide (c = 101) := zHl c 101
      rw [this] at q
      exact hc.resolve_right (of_decide_eq_false q)
    obtain ⟨a, e⟩ := h2 h100
    refine ⟨a, ?_⟩
    rw [e]
    exact fin
end
theorem zQY (m : Nat) (kids : List PyData) : (wr (m + 1) (.list (.str (tx [115]) :: kids))).1 = zAc ([115] :: kids.map fun x => (wr m x).1) := by
 rw [zCD, if_neg (by decide), if_neg (by decide), if_pos (by decide)]
theorem zQe (m : Nat) (kids : List PyData) : (wr (m + 1) (.list (.str (tx [104]) :: kids))).1 = zBF [44, 32] ([104] :: (kids.map fun x => (wr m x).1).map zAm) := by
 rw [zCD, if_pos (by decide)]
theorem zQk (m : Nat) (kids : List PyData) : (wr (m + 1) (.list (.str (tx [100]) :: kids))).1 = zBF [44, 32] ([100, 61, 100] :: zAi zAm (kids.map fun x => (wr m x).1)) := by
 rw [zCD, if_neg (by decide), if_pos (by decide)]
theorem zQh (m : Nat) (kids : List PyData) : (wr (m + 1) (.list (.str (tx [101]) :: kids))).1 = zAc ([101, 61, 101] :: zAi quo (kids.map fun x => (wr m x).1)) := by
 rw [zCD, if_neg (by decide), if_neg (by decide), if_neg (by decide)]
theorem zGQ (x : List Nat) (ts : List (List Nat)) : ∃ r, zAc (x :: ts) = zAT x ++ r := by
 cases ts with
 | nil => exact ⟨[], (List.append_nil _).symm⟩
 | cons y r => exact ⟨_, rfl⟩
theorem zGU (s x : List Nat) (ts : List (List Nat)) : ∃ r, zBF s (x :: ts) = x ++ r := by
 cases ts with
 | nil => exact ⟨[], (List.append_nil _).symm⟩
 | cons y r => exact ⟨_, rfl⟩
theorem zNA (ws : List (List Nat)) (h : ws ≠ []) (hl : (zAc ws).length ≤ 1000000) : LexAll (tx (zAc ws)) (.str " ") 1 0 (ws.map tx) := by
 have := zKA ws [] 1 h (by rw [List.nil_append, sizeLine_eq]; lia)
 exact this
theorem zPd (ts : List (List Nat)) : zBO (zBF [44, 32] ([104] :: ts.map zAm)) = tx [104] :: ts.map fun t => tx (quo t) := by
 have := zFR ([104], [104]) (ts.map fun t => (zAm t, quo t)) (fun y hy => ?_) (fun y hy => ?_)
 ·rw [List.map_cons, List.map_map, List.map_cons, List.map_map] at this
  exact this
 ·rcases List.mem_cons.mp hy with rfl | hy
  ·exact zCh _ fun c hc => by rw [List.mem_singleton.mp hc]; decide
  ·obtain ⟨t, _, rfl⟩ := List.mem_map.mp hy
   exact zHa t
 ·rcases List.mem_cons.mp hy with rfl | hy
  ·exact ⟨⟨104, [], rfl, by decide +kernel⟩, ⟨[], 104, rfl, by decide +kernel⟩⟩
  ·obtain ⟨t, _, rfl⟩ := List.mem_map.mp hy
   exact zLs t
theorem zPe (ts : List (List Nat)) (hn : ts.length ≤ 10) : zBO (zBF [44, 32] ([100, 61, 100] :: zAi zAm ts)) = ([100, 61, 100] :: zAi quo ts).map tx := by
 have := zFR ([100, 61, 100], [100, 61, 100]) ((List.range ts.length).map fun i => (107 :: (48 + i) :: 61 :: zAm (ts.getD i []), 107 :: (48 + i) :: 61 :: quo (ts.getD i []))) (fun y hy => ?_) (fun y hy => ?_)
 ·rw [List.map_cons, List.map_map, List.map_cons, List.map_map] at this
  rw [List.map_cons]
  unfold zAi
  rw [List.map_map]
  exact this
 ·rcases List.mem_cons.mp hy with rfl | hy
  ·refine zCh _ fun c hc => ?_
   simp only [List.mem_cons, List.not_mem_nil, or_false] at hc
   rcases hc with rfl | rfl | rfl <;> decide
  ·obtain ⟨i, hi, rfl⟩ := List.mem_map.mp hy
   rw [List.mem_range] at hi
   exact zOO i (by lia) _
 ·rcases List.mem_cons.mp hy with rfl | hy
  ·exact ⟨⟨100, [61, 100], rfl, by decide +kernel⟩, ⟨[100, 61], 100, rfl, by decide +kernel⟩⟩
  ·obtain ⟨i, hi, rfl⟩ := List.mem_map.mp hy
   exact zLt i _
theorem zTV (a b : Prop) : ifT true a b = a := rfl
theorem zNR (a b : Prop) : ifT false a b = b := rfl
theorem zTQ (c : Nat) (hc : c = 115 ∨ c = 104 ∨ c = 100 ∨ c = 101) : Fast.sEq (tx [c]) "" = false ∧ Fast.sEq (tx [c]) "l" = false := by
 rcases hc with rfl | rfl | rfl | rfl <;> exact ⟨by decide, by decide⟩
theorem zGy {P : Params} {n d m : Nat} {rf : List SV → St → Kt → Prop} {k : Kt} (c : Nat) (r : List Nat) (hc : c = 115 ∨ c = 104 ∨ c = 100 ∨ c = 101) (f : Int) (hf : f ≠ 0) (h : ev (cfRd P d rf) (n + 298) zAj (.sts ((zAE s805).drop 2)) (rdK (tx (c :: r)) f (tx [c])) k) :
  ev (cfRd P d rf) (n + 300) zAj (.sts (zAE s805)) (rdSt (tx (c :: r)) f [] []) k := by
 rw [rd_1]
 have e : kd1 (tx (c :: r)) = tx [c] := zNb c r
 rw [e]
 obtain ⟨h1, h2⟩ := zTQ c hc
 have h3 : (f == 0) = false := beq_eq_false_iff_ne.mpr hf
 rw [h1, h2, h3]
 exact h
theorem zFB {P : Params} {n d : Nat} {rf : List SV → St → Kt → Prop} {k : Kt} (f : Int) {dd : PyData} (h : zDg dd) (hk : ∀ loc l, k (.ret (svOf dd)) ⟨loc, l⟩) :
  ev (cfRd P d rf) (n + 300) zAj (.sts (zAE s805)) (rdSt (tx (zHG dd)) f [] []) k := by
 obtain ⟨t, rfl, ht, _⟩ := h
 rw [rd_1]
 have e0 : zHG (.str (tx t)) = if t = [] then [] else 108 :: t := by
  show (if (tx t).cps.toList = [] then [] else 108 :: (tx t).cps.toList) = _
  rw [zBV]
 rw [e0]
 by_cases hne : t = []
 ·rw [if_pos hne]
  have e1 : Fast.sEq (kd1 (tx [])) "" = true := by decide
  rw [e1]
  have e2 : Txt.slice (tx []) (some 1) none = tx t := by rw [hne]; decide
  show k (.ret (.str (Txt.slice (tx []) (some 1) none))) _
  rw [e2]
  exact hk _ _
 ·rw [if_neg hne]
  have e : kd1 (tx (108 :: t)) = tx [108] := zNb 108 t
  rw [e]
  have e1 : Fast.sEq (tx [108]) "" = false := by decide
  have e2 : Fast.sEq (tx [108]) "l" = true := by decide
  rw [e1, e2]
  show k (.ret (.str (Txt.slice (tx (108 :: t)) (some 1) none))) _
  rw [zQs]
  exact hk _ _
theorem zJC {P : Params} {n m : Nat} {k : Kt} (hm : m ≤ 2) (hd : dR m ≤ n + 292) (c : Nat) (hc : c = 115 ∨ c = 104 ∨ c = 100 ∨ c = 101) (kids : List PyData) (hlen : kids.length ≤ 6) (hkids : ∀ x ∈ kids, zAs m x) (f : Int) (hf : f = (m : Int) + 2)
  (htree : zAs (m + 1) (.list (.str (tx [c]) :: kids))) (hk : ∀ loc l, k (.ret (.dat (.list (.str (tx [c]) :: kids)))) ⟨loc, l⟩) :
  ev (cfRd P (dR m) (lrF m)) (n + 300) zAj (.sts (zAE s805)) (rdSt (tx (wr (m + 1) (.list (.str (tx [c]) :: kids))).1) f [] []) k := by
 have hT : (wr (m + 1) (.list (.str (tx [c]) :: kids))).1.length ≤ 1000000 := by
  have h1 := zHW (m + 1) htree
  have h2 := zCg (show m + 1 ≤ 3 by lia)
  have : bndT 3 = 267200 := rfl
  lia
 generalize hts : kids.map (fun x => (wr m x).1) = ts
 have hnt : ts.length ≤ 10 := by rw [← hts, List.length_map]; lia
 have hb : ∀ t ∈ ts, t.length ≤ 90000 := fun t ht => by
  rw [← hts] at ht
  obtain ⟨x, hx, rfl⟩ := List.mem_map.mp ht
  have h1 := zHW m (hkids x hx)
  have h2 := zCg hm
  have : bndT 2 = 8900 := rfl
  lia
 have hf0 : f ≠ 0 := by lia
 have e1 : ∀ (b : Str) (k' : Kt), k' = k → ev (cfRd P (dR m) (lrF m)) (n + 297) zAj (.sts ((zAE s805).drop 3)) (rdSt b f (zIz (tx [c]) (zAJ ts)) []) k := fun b k' _ => zLA hd hf hkids hts.symm (by lia) hk
 have e2 : ∀ (b : Str) (fs : List (Str × Str)) (N : Nat), ev (cfRd P (dR m) (lrF m)) (n + 297) zAj (.sts ((zAE s805).drop 3)) (rdSt b f (zBo (tx [c]) (zAJ ts)) [.dic (dV fs), .gone, .list [.str (tx [c])], .rng N]) k := fun b fs N => zKz hd hf hkids hts.symm (by lia) fs N hk
 have hsE : ∀ x : Nat, Fast.sEq (tx [c]) (tx [x]) = decide (c = x) := fun x => zHl c x
 have l1 : ("s" : Str) = tx [115] := by rfl
 have l2 : ("h" : Str) = tx [104] := by rfl
 rcases hc with rfl | rfl | rfl | rfl
 ·rw [zQY, hts] at hT ⊢
  obtain ⟨r, hr⟩ := zGQ [115] ts
  have hw : zAT [115] = [115] := by decide +kernel
  rw [hw] at hr
  replace hr : zAc ([115] :: ts) = 115 :: r := hr
  have hlex := zNA ([115] :: ts) (List.cons_ne_nil _ _) hT
  rw [hr] at hlex ⊢
  refine zGy (m := m) 115 r (.inl rfl) f hf0 ?_
  rw [rd_2, l1, hsE, decide_eq_true rfl, zTV]
  refine zRc hlex hnt ?_
  exact e1 _ k rfl
 ·rw [zQe, hts] at hT ⊢
  obtain ⟨r, hr⟩ := zGU [44, 32] [104] (ts.map zAm)
  replace hr : zBF [44, 32] ([104] :: ts.map zAm) = 104 :: r := hr
  have hit := zPd ts
  rw [hr] at hit hT ⊢
  refine zGy (m := m) 104 r (.inr (.inl rfl)) f hf0 ?_
  rw [rd_2, l1, l2, hsE, hsE, decide_eq_false (by decide), decide_eq_true rfl, zNR, zTV]
  refine zRf (ts := ts) ?_ (by rw [zAF]; exact hT) hnt ?_
  ·rw [zBh]; exact hit
  ·exact e1 _ k rfl
 ·rw [zQk, hts] at hT ⊢
  obtain ⟨r, hr⟩ := zGU [44, 32] [100, 61, 100] (zAi zAm ts)
  replace hr : zBF [44, 32] ([100, 61, 100] :: zAi zAm ts) = 100 :: ([61, 100] ++ r) := hr
  have hit := zPe ts hnt
  rw [hr] at hit hT ⊢
  refine zGy (m := m) 100 ([61, 100] ++ r) (.inr (.inr (.inl rfl))) f hf0 ?_
  rw [rd_2, l1, l2, hsE, hsE, decide_eq_false (by decide), decide_eq_false (by decide), zNR, zNR]
  refine zJp (ts := ts) 100 (.inl rfl) hnt hb (fun h => absurd h (by decide)) (fun _ => ⟨by rw [zAF]; exact hT, ?_⟩) ?_
  ·rw [zBh]; exact hit
  ·exact e2 _ _ _
 ·rw [zQh, hts] at hT ⊢
  obtain ⟨r, hr⟩ := zGQ [101, 61, 101] (zAi quo ts)
  have hw : zAT [101, 61, 101] = [101, 61, 101] := by decide +kernel
  rw [hw] at hr
  replace hr : zAc ([101, 61, 101] :: zAi quo ts) = 101 :: ([61, 101] ++ r) := hr
  have hlex := zNA ([101, 61, 101] :: zAi quo ts) (List.cons_ne_nil _ _) hT
  rw [hr] at hlex ⊢
  refine zGy (m := m) 101 ([61, 101] ++ r) (.inr (.inr (.inr rfl))) f hf0 ?_
  rw [rd_2, l1, l2, hsE, hsE, decide_eq_false (by decide), decide_eq_false (by decide), zNR, zNR]
  refine zJp (ts := ts) 101 (.inr rfl) hnt hb (fun _ => hlex) (fun h => absurd h (by decide)) ?_
  exact e2 _ _ _
theorem zTI {w : World} {C : Cf} (hK : C.K = KK w.params) (d : Nat) : SpOk w C ⟨805, 2, d, fun _ _ _ => False⟩ := ⟨by rw [hK]; kernel_rfl, fun F A ads st s svs vs k Q Rr ok hA hh hd hu h => h.elim⟩
theorem zUo (w : World) (d : Nat) (rf : List SV → St → Kt → Prop) (h : SpOk w (cfRd w.params d rf) ⟨805, 2, d, rf⟩) : CfOk w (cfRd w.params d rf) :=
 ⟨zAD, zAD, zAn (zTW _), zAA h <| zAA (zOT rfl rfl) <| zAA (zSL rfl rfl) <| zAA (zSC rfl rfl) zAD, zAA (zOL rfl rfl) <| zAA (zPW rfl rfl) zAD, zAD⟩
theorem zMw {w : World} {C : Cf} (M d : Nat) (rf : List SV → St → Kt → Prop) (hsub : SpOk w (cfRd w.params d rf) ⟨805, 2, d, rf⟩) (hK : C.K = KK w.params) (hC : C.known = true)
  (hbody : ∀ (dd : PyData) (k : Kt), zAs M dd → (∀ loc led, k (.ret (svOf dd)) ⟨loc, led⟩) →
   ev (cfRd w.params d rf) (20 * M + 300) zAj (.sts (zAE s805)) (rdSt (tx (wr M dd).1) ((M : Int) + 1) [] []) k) : SpOk w C (lrSp M) := by
 refine ⟨by rw [hK]; kernel_rfl, ?_⟩
 intro F A ads st s svs vs k Q Rr ok hA hh hd hu h R D hl' T hR
 replace hA : true = true → A.frames = some F.stk := fun _ => hA hC
 obtain ⟨dd, htree, rfl, hk⟩ := h
 have okY : FmOk (cfRd w.params d rf) F := zAX hK.symm ok (by first | exact fun _ => rfl | exact fun _ => by assumption | exact fun h => h)
 have d40 : (lrSp M).d = 305 + 20 * M := rfl
 rw [d40] at hd hu
 refine zBS (e := f805) (n := 20 * M + 300) (led₁ := []) (led₂ := st.led) (zBs (zUo w d rf hsub) (20 * M + 300)) (zTa _) okY hA hh (by lia) (by lia) R D hl' rfl trivial (fun x hx => ?_) (by decide) ?_ T hR
 ·rcases List.mem_cons.mp hx with rfl | hx
  ·trivial
  ·rw [List.mem_singleton.mp hx]; trivial
 ·show ev (cfRd w.params d rf) (20 * M + 300) zAj (.sts (zAE s805)) (rdSt (tx (wr M dd).1) ((M : Int) + 1) [] []) _
  exact hbody dd _ htree fun loc led => ⟨svOf dd, svOf dd, [], .inl rfl, .same (by cases dd <;> trivial), .nil, hk⟩
theorem zSD {k : Str} (h : k = "s" ∨ k = "h" ∨ k = "e" ∨ k = "d") : ∃ c, k = tx [c] ∧ (c = 115 ∨ c = 104 ∨ c = 100 ∨ c = 101) := by
 rcases h with rfl | rfl | rfl | rfl
 ·exact ⟨115, by rfl, .inl rfl⟩
 ·exact ⟨104, by rfl, .inr (.inl rfl)⟩
 ·exact ⟨101, by rfl, .inr (.inr (.inr rfl))⟩
 ·exact ⟨100, by rfl, .inr (.inr (.inl rfl))⟩
theorem zTM {w : World} : ∀ (M : Nat), M ≤ 3 → ∀ {C : Cf}, C.K = KK w.params → C.known = true → SpOk w C (lrSp M)
 | 0, _, C, hK, hC => zMw 0 0 (fun _ _ _ => False) (zTI rfl 0) hK hC fun dd k ht hk => by
  obtain ⟨t, e, _⟩ := id ht
  rw [zBU 0 e]
  exact zFB (n := 20 * 0) _ ht hk
 | M + 1, hM, C, hK, hC => zMw (M + 1) (dR M) (lrF M) (zTM M (by lia) rfl rfl) hK hC fun dd k ht hk => by
  rcases id ht with hl | ⟨kd, kids, rfl, hkd, hlen, hkids⟩
  ·obtain ⟨t, e, _⟩ := id hl
   rw [zBU (M + 1) e]
   exact zFB (n := 20 * (M + 1)) _ hl hk
  ·obtain ⟨c, rfl, hc⟩ := zSD hkd
   exact zJC (n := 20 * (M + 1)) (by lia) (by show 305 + 20 * M ≤ _; lia) c hc kids hlen hkids _ (by lia) ht hk
noncomputable def s810 : Stmt := stAt 38 B01
noncomputable def f810 : FnE := ⟨810, 1, ["script"], [], zAE s810, zAB s810, "law", .ref 809, []⟩
theorem zTZ (P : Params) : FnOk (KK P) f810 := FnOk.of (by kernel_rfl) (by kernel_rfl) ⟨_, _, _, _, (by kernel_rfl : (KK P).lookup 810 = some (o810 P)), rfl, rfl, fun _ _ => rfl, rfl, rfl, fun s vs X h => by
 obtain ⟨a, rfl⟩ := len1 h
 exact BindsTo.of_eq (by kernel_rfl)⟩
noncomputable def zBe : List (Str × NameKind) := (zAB s810).names
noncomputable def gLw : List (Str × Value) := [("_law_tree", .ref 785), ("_law_written", .ref 795), ("_law_read", .ref 805), ("_law_word", .ref 800)]
theorem zUe (P : Params) : ∀ p ∈ gLw, zDh (KK P) p :=
 zAA ⟨by kernel_rfl, .inl (by kernel_rfl)⟩ <| zAA ⟨by kernel_rfl, .inl (by kernel_rfl)⟩ <| zAA ⟨by kernel_rfl, .inl (by kernel_rfl)⟩ <| zAA ⟨by kernel_rfl, .inl (by kernel_rfl)⟩ zAD
noncomputable abbrev cfLw (P : Params) : Cf where
 K := KK P
 globs := gLw
 fns := []
 cls := []
 sps := [treeSp, wrSp 3, lrSp 3, wordSp]
theorem zUp (w : World) : CfOk w (cfLw w.params) := ⟨zAD, zAD, zAn (zUe _), zAA (zQo rfl rfl) <| zAA (zSh 3 (by decide) rfl rfl) <| zAA (zTM 3 (by decide) rfl rfl) <| zAA (zQl rfl rfl) zAD, zAD, zAD⟩
theorem zUY (P : Params) (d : PyData) (k : Kt) : ev (cfLw P) 600 zBe (.sts (zAE s810)) ⟨[("script", .dat d)], [.tab 746]⟩ k =
   zQq [.dat d] ⟨[("script", .dat d)], [.tab 746]⟩ (fun r st => match r with
     | .v y => ev (cfLw P) 599 zBe (.sts ((zAE s810).drop 1)) { st with loc := put "tree" y st.loc } k
     | _ => False) := by
  kernel_rfl
theorem zUX (P : Params) (d t : PyData) (k : Kt) : ev (cfLw P) 599 zBe (.sts ((zAE s810).drop 1)) ⟨[("script", .dat d), ("tree", .dat t)], [.tab 746]⟩ k =
   wrF 3 [.dat t, .obj 1] ⟨[("script", .dat d), ("tree", .dat t), ("lines", .obj 1)], [.tab 746, .list []]⟩ (fun r st => match r with
     | .v y => ev (cfLw P) 597 zBe (.sts ((zAE s810).drop 3)) { st with loc := put "text" y st.loc } k
     | _ => False) := by
  kernel_rfl
noncomputable def zFs : Stmt := stAt 3 (zAE s810)
noncomputable abbrev zCL (d t : PyData) (x : Str) : List (Str × SV) := [("script", .dat d), ("tree", .dat t), ("lines", .obj 1), ("text", .str x)]
theorem zUW (P : Params) (d t : PyData) (x : Str) (ls : List SV) (k : Kt) : ev (cfLw P) 597 zBe (.sts ((zAE s810).drop 3)) ⟨zCL d t x, [.tab 746, .list ls]⟩ k =
   forE (zAN zBe (zAl zFs)) (fun st k => ev (cfLw P) 595 zBe (.sts (zAZ zFs)) st k) (.obj 1) ls (.it true (.obj 1)) 2 0 ls ⟨zCL d t x, [.tab 746, .list ls, .it true (.obj 1) 0]⟩ (zDF (fun st k => ev (cfLw P) 596 zBe (.sts ((zAE s810).drop 4)) st k) k) := by
  kernel_rfl
noncomputable def ifL : Stmt := stAt 0 (zAZ zFs)
noncomputable def lcLw : Expr := arg0 (zNw (zCt ifL))
noncomputable def cnLw : List (Str × NameKind) := zBE (lcSc lcLw).names
noncomputable def tgLw : List Expr := match zAl zFs with
 | .Tuple es _ _ => es
 | _ => []
theorem zTN (x : SV) (st : St) (k : St → Prop) : zAN zBe (zAl zFs) x st k = ∃ b xs, zHm st x = some (b, xs) ∧ xs.length = tgLw.length ∧ zEL zBe tgLw xs st k := by
 kernel_rfl
theorem zNE : tgLw.length = 2 ∧ ∀ (a b : SV) (st : St) (k : St → Prop), zEL zBe tgLw [a, b] st k = k { st with loc := put "line" b (put "words" a st.loc) } := ⟨by kernel_rfl, fun a b st k => by kernel_rfl⟩
theorem zPQ (P : Params) (d t : PyData) (x line : Str) (ws : List PyData) (ls : List SV) (it : SO) (k : Kt) : ev (cfLw P) 595 zBe (.sts (zAZ zFs)) ⟨zCL d t x ++ [(("words" : Str), .dat (.list ws)), ("line", .str line)], [.tab 746, .list ls, it]⟩ k =
   zBZ (zAN cnLw (zAp lcLw)) none (fun st k => ev (cfLw P) 588 cnLw (.ex (zBG lcLw)) st k) (.dat (.list ws)) (ws.map svOf) (.it true (.dat (.list ws))) 3 4 0 (ws.map svOf)
     ⟨[], [.tab 746, .list ls, it] ++ [.it true (.dat (.list ws)) 0, .list []]⟩
     (fun stE => zAg (zCL d t x ++ [(("words" : Str), .dat (.list ws)), ("line", .str line)]) 3 4 stE fun v st₁ => zAt st₁ v fun ds => ∃ ts : List Str, ds = ts.map .str ∧ JoinOk " " ts = true ∧ (Txt.join " " ts).length ≤ sizeLine ∧
       ifT (!(Fast.sEq line (Txt.join " " ts))) (ev (cfLw P) 593 zBe (.sts (zAV ifL)) st₁ (nxt k)) (k .next st₁)) := by
  kernel_rfl
theorem zRx (P : Params) (b : Str) (l : List SO) (K : Kt) (D : St → Prop) : zAN cnLw (zAp lcLw) (.str b) ⟨[], l⟩ (fun st₁ => zCo none st₁ fun c st₂ => ifT c (ev (cfLw P) 588 cnLw (.ex (zBG lcLw)) st₂ K) (D st₂)) =
   (b.length ≤ 1000000 ∧ PyData.strOk b = true ∧ K (.v (.str (zBn b))) ⟨[("word", .str b)], l⟩) := by
  kernel_rfl
theorem zUV (P : Params) (d t : PyData) (x : Str) (l : List SO) (k : Kt) : ev (cfLw P) 596 zBe (.sts ((zAE s810).drop 4)) ⟨zCL d t x, l⟩ k =
   lrF 3 [.str x, .int 4] ⟨zCL d t x, l⟩ (fun r st => match r with
     | .v y => ev (cfLw P) 593 zBe (.ex (zNw (rVal (stAt 4 (zAE s810))))) st fun r st₂ => match r with
       | .v z => cmpA 593 st₂ .Eq y z fun c => k (.ret (.bool c)) st₂
       | _ => False
     | _ => False) := by
  kernel_rfl
theorem zTO (P : Params) (d t : PyData) (x : Str) (l : List SO) (k : Kt) : ev (cfLw P) 593 zBe (.ex (zNw (rVal (stAt 4 (zAE s810))))) ⟨zCL d t x, l⟩ k = k (.v (.dat t)) ⟨zCL d t x, l⟩ := by
 kernel_rfl
theorem zKu (i : Int) (h0 : 0 ≤ i) (h1 : i < 12) : zDJ i ∈ alpha.cps.toList := by
 have hl : alpha.cps.toList.length = 12 := by rfl
 unfold zDJ
 have : i.toNat < alpha.cps.toList.length := by rw [hl]; lia
 have e : alpha.cps.toList.getD i.toNat 0 = alpha.cps.toList[i.toNat] := by
  generalize alpha.cps.toList = l at this
  simp [this]
 rw [e]
 exact List.getElem_mem this
theorem zJb : ∀ (n : Nat) (m : Int), ∀ c ∈ txtN n m, c ∈ alpha.cps.toList
 | 0, _, c, h => absurd h List.not_mem_nil
 | n + 1, m, c, h => by
  rcases List.mem_cons.mp h with rfl | h
  ·exact zKu _ (Int.fmod_nonneg_of_pos m (by decide)) (Int.fmod_lt_of_pos m (by decide))
  ·exact zJb n _ c h
theorem zJc : ∀ (n : Nat) (m : Int), (txtN n m).length = n
 | 0, _ => rfl
 | n + 1, m => by show (txtN n _).length + 1 = _; rw [zJc n]
theorem zHH (x : Int) : zDg (zDX x) := by
 refine ⟨zLL (x.fdiv 8), rfl, ?_, zJb _ _⟩
 unfold zLL
 rw [zJc]
 have := Int.fmod_lt_of_pos (x.fdiv 8) (show (0 : Int) < 3 by decide)
 omega
theorem zKC (x : Int) (h : x.fmod 8 < 4) : zCy x = "s" ∨ zCy x = "h" ∨ zCy x = "e" ∨ zCy x = "d" := by
 unfold zCy
 have h0 : 0 ≤ x.fmod 8 := Int.fmod_nonneg_of_pos x (by decide)
 generalize x.fmod 8 = i at h h0
 have : i = 0 ∨ i = 1 ∨ i = 2 ∨ i = 3 := by lia
 rcases this with rfl | rfl | rfl | rfl
 ·exact .inl (by rfl)
 ·exact .inr (.inl (by rfl))
 ·exact .inr (.inr (.inl (by rfl)))
 ·exact .inr (.inr (.inr (by rfl)))
noncomputable def KdOk (k : Str) : Prop := k = "s" ∨ k = "h" ∨ k = "e" ∨ k = "d"
theorem zFL (m : Nat) {d : PyData} (h : zDg d) : zAs m d := by
 cases m with
 | zero => exact h
 | succ m => exact .inl h
inductive TSok : TS → Nat → Prop
 | one {k : Str} {r : List PyData} {j : Nat} : KdOk k → (∀ x ∈ r, zAs 2 x) → r.length ≤ j → TSok (.one (.str k :: r)) j
 | two {k k2 : Str} {r a : List PyData} {j : Nat} : KdOk k → KdOk k2 → (∀ x ∈ r, zAs 2 x) → (∀ x ∈ a, zAs 1 x) → r.length + 1 + a.length ≤ j → TSok (.two (.str k :: r) (.str k2 :: a)) j
 | three {k k2 k3 : Str} {r a b : List PyData} {j : Nat} : KdOk k → KdOk k2 → KdOk k3 → (∀ x ∈ r, zAs 2 x) → (∀ x ∈ a, zAs 1 x) → (∀ x ∈ b, zAs 0 x) → r.length + 1 + a.length + 1 + b.length ≤ j → TSok (.three (.str k :: r) (.str k2 :: a) (.str k3 :: b)) j
theorem zBr {p : PyData → Prop} {l : List PyData} {d : PyData} (h : ∀ x ∈ l, p x) (hd : p d) : ∀ x ∈ l ++ [d], p x := fun x hx => by
 rcases List.mem_append.mp hx with hx | hx
 ·exact h x hx
 ·rw [List.mem_singleton.mp hx]; exact hd
theorem zOM (x : Int) {t : TS} {j : Nat} (h : TSok t j) (hj : j < 6) : TSok (zBI x t) (j + 1) := by
 cases h with
 | one hk hr hl =>
  unfold zBI
  dsimp only
  split
  ·rename_i h4
   exact .two hk (zKC x h4) hr (fun _ hx => absurd hx List.not_mem_nil) (by rw [List.length_nil]; lia)
  ·split
   ·exact .one hk hr (by lia)
   ·exact .one hk (zBr hr (zFL 2 (zHH x))) (by simp; lia)
 | two hk hk2 hr ha hl =>
  unfold zBI
  dsimp only
  split
  ·rename_i h4
   exact .three hk hk2 (zKC x h4) hr ha (fun _ hx => absurd hx List.not_mem_nil) (by rw [List.length_nil]; lia)
  ·split
   ·exact .one hk (zBr hr (.inr ⟨_, _, rfl, hk2, by lia, ha⟩)) (by simp; lia)
   ·exact .two hk hk2 hr (zBr ha (zFL 1 (zHH x))) (by simp; lia)
 | three hk hk2 hk3 hr ha hb hl =>
  unfold zBI
  dsimp only
  split
  ·exact .two hk hk2 hr (zBr ha (.inr ⟨_, _, rfl, hk3, by lia, hb⟩)) (by simp; lia)
  ·exact .three hk hk2 hk3 hr ha (zBr hb (zFL 0 (zHH x))) (by simp; lia)
theorem zNl : ∀ (rest : List Int) (t : TS) (j : Nat), TSok t j → j + rest.length ≤ 6 → TSok (rest.foldl (fun t x => zBI x t) t) (j + rest.length)
 | [], t, j, h, _ => h
 | x :: r, t, j, h, hl => by
  rw [List.length_cons] at hl ⊢
  rw [List.foldl_cons, show j + (r.length + 1) = j + 1 + r.length by lia]
  exact zNl r _ (j + 1) (zOM x h (by lia)) (by lia)
theorem zTt {t : TS} {j : Nat} (h : TSok t j) (hj : j ≤ 6) : zAs 3 t.fin := by
 cases h with
 | one hk hr hl => exact .inr ⟨_, _, rfl, hk, by lia, hr⟩
 | two hk hk2 hr ha hl => exact .inr ⟨_, _, rfl, hk, by simp; lia, zBr hr (.inr ⟨_, _, rfl, hk2, by lia, ha⟩)⟩
 | three hk hk2 hk3 hr ha hb hl => exact .inr ⟨_, _, rfl, hk, by simp; lia, zBr hr (.inr ⟨_, _, rfl, hk2, by simp; lia, zBr ha (.inr ⟨_, _, rfl, hk3, by lia, hb⟩)⟩)⟩
theorem zLr (xs : List Int) : zAs 3 (zEA xs) := by
 unfold zEA
 have hk : KdOk (if xs.length % 2 = 0 then "s" else "h") := by
  split
  ·exact .inl rfl
  ·exact .inr (.inl rfl)
 have h0 : TSok (.one [.str (if xs.length % 2 = 0 then "s" else "h")]) 0 := .one hk (fun _ hx => absurd hx List.not_mem_nil) (Nat.le_refl _)
 have hl : 0 + (xs.take 6).length ≤ 6 := by rw [List.length_take]; omega
 exact zTt (zNl (xs.take 6) _ 0 h0 hl) hl
theorem zKS (xs : List Int) : ∃ l, zEA xs = .list l := by
 unfold zEA
 generalize (xs.take 6).foldl _ _ = t
 cases t <;> exact ⟨_, rfl⟩
noncomputable def Cp (l : List Nat) : Prop := ∀ c ∈ l, c < 0x110000
theorem zIU {a b : List Nat} (h1 : Cp a) (h2 : Cp b) : Cp (a ++ b) := fun c hc => by
 rcases List.mem_append.mp hc with h | h
 ·exact h1 c h
 ·exact h2 c h
theorem zAk {c : Nat} {a : List Nat} (h1 : c < 0x110000) (h2 : Cp a) : Cp (c :: a) := fun d hd => by
 rcases List.mem_cons.mp hd with rfl | h
 ·exact h1
 ·exact h2 d h
theorem zCd : Cp [] := fun c hc => absurd hc List.not_mem_nil
theorem zKL {l : List Nat} (h : Cp l) : PyData.strOk (tx l) = true := by
 unfold PyData.strOk
 rw [← Array.all_toList, List.all_eq_true]
 intro c hc
 rw [zBh] at hc
 exact decide_eq_true (h c hc)
theorem zKP {c : Nat} (h : c ∈ alpha.cps.toList) : c < 0x110000 := by
 have : alpha.cps.toList.all (fun n => decide (n < 0x110000)) = true := by decide +kernel
 exact of_decide_eq_true (List.all_eq_true.mp this c h)
theorem zUB {l : List Nat} (h : Cp l) : Cp (escS l) := fun c hc => by
 obtain ⟨d, hd, hc⟩ := List.mem_flatMap.mp hc
 split at hc
 ·simp only [List.mem_cons, List.not_mem_nil, or_false] at hc
  rcases hc with rfl | rfl
  ·decide
  ·exact h _ hd
 ·rw [List.mem_singleton.mp hc]; exact h _ hd
theorem zNt {l : List Nat} (h : Cp l) : Cp (zAm l) := zAk (by decide) (zIU (zUB h) (zAk (by decide) zCd))
theorem zUA {l : List Nat} (h : Cp l) : Cp (quo l) := zAk (by decide) (zIU h (zAk (by decide) zCd))
theorem zTz {l : List Nat} (h : Cp l) : Cp (repL 39 qm l) := fun c hc => by
 unfold repL at hc
 obtain ⟨d, hd, hc⟩ := List.mem_flatMap.mp hc
 split at hc
 ·have : qm.all (fun n => decide (n < 0x110000)) = true := by decide
  exact of_decide_eq_true (List.all_eq_true.mp this c hc)
 ·rw [List.mem_singleton.mp hc]; exact h _ hd
theorem zSb {l : List Nat} (h : Cp l) : Cp (zAT l) := by
 unfold zAT
 split
 ·exact h
 ·exact zAk (by decide) (zIU (zTz h) (zAk (by decide) zCd))
theorem zHT {s : List Nat} (hs : Cp s) : ∀ {ws : List (List Nat)}, (∀ w ∈ ws, Cp w) → Cp (zBF s ws)
 | [], _ => zCd
 | [x], h => h x (.head _)
 | x :: y :: r, h => zIU (h x (.head _)) (zIU hs (zHT hs fun w hw => h w (.tail _ hw)))
theorem zSc {ws : List (List Nat)} (h : ∀ w ∈ ws, Cp w) : Cp (zAc ws) := by
 rw [zBj]
 refine zHT (zAk (by decide) zCd) fun w hw => ?_
 obtain ⟨x, hx, rfl⟩ := List.mem_map.mp hw
 exact zSb (h x hx)
theorem zKM {f : List Nat → List Nat} {ts : List (List Nat)} (hf : ∀ t, Cp t → Cp (f t)) (h : ∀ t ∈ ts, Cp t) (hn : ts.length ≤ 1000) : ∀ w ∈ zAi f ts, Cp w := fun w hw => by
 obtain ⟨i, t, hi, ht, rfl⟩ := zBx hw
 exact zAk (by decide) (zAk (by lia) (zAk (by decide) (hf t (h t ht))))
noncomputable def LnOk (l : Ln) : Prop := l.2 = zAc l.1 ∧ l.1.length ≤ 10 ∧ ∀ w ∈ l.1, Cp w ∧ w.length ≤ 100000
theorem zSl : ∀ (m : Nat) {d : PyData}, m ≤ 3 → zAs m d → Cp (wr m d).1 ∧ ∀ l ∈ (wr m d).2, LnOk l
 | m, d, hm, h => by
  have leaf : ∀ m, zDg d → Cp (wr m d).1 ∧ ∀ l ∈ (wr m d).2, LnOk l := fun m h => by
   obtain ⟨t, rfl, _, ht⟩ := h
   rw [zBU m rfl]
   refine ⟨?_, fun l hl => absurd hl List.not_mem_nil⟩
   show Cp (if (tx t).cps.toList = [] then [] else 108 :: (tx t).cps.toList)
   rw [zBh]
   split
   ·exact zCd
   ·exact zAk (by decide) fun c hc => zKP (ht c hc)
  cases m with
  | zero => exact leaf 0 h
  | succ m =>
   rcases h with h | ⟨k, kids, rfl, hk, hn, hkids⟩
   ·exact leaf (m + 1) h
   ·have ih : ∀ x ∈ kids, Cp (wr m x).1 ∧ ∀ l ∈ (wr m x).2, LnOk l := fun x hx => zSl m (by lia) (hkids x hx)
    rw [zCD]
    have hts : ∀ t ∈ kids.map (fun x => (wr m x).1), Cp t ∧ t.length ≤ 90000 := fun t ht => by
     obtain ⟨x, hx, rfl⟩ := List.mem_map.mp ht
     refine ⟨(ih x hx).1, ?_⟩
     have h1 := zHW m (hkids x hx)
     have h2 := zCg (show m ≤ 2 by lia)
     have : bndT 2 = 8900 := rfl
     lia
    have hls : ∀ l ∈ kids.flatMap (fun x => (wr m x).2), LnOk l := fun l hl => by
     obtain ⟨x, hx, hl⟩ := List.mem_flatMap.mp hl
     exact (ih x hx).2 l hl
    have hnt : (kids.map fun x => (wr m x).1).length ≤ 6 := by rw [List.length_map]; exact hn
    generalize kids.map (fun x => (wr m x).1) = ts at hts hnt
    generalize kids.flatMap (fun x => (wr m x).2) = ls at hls
    have c2 : Cp [44, 32] := zAk (by decide) (zAk (by decide) zCd)
    have line : ∀ ws : List (List Nat), ws.length ≤ 10 → (∀ w ∈ ws, Cp w ∧ w.length ≤ 100000) → Cp (zAc ws) ∧ ∀ l ∈ ls ++ [(ws, zAc ws)], LnOk l := fun ws hw hws => by
     refine ⟨zSc fun w hx => (hws w hx).1, fun l hl => ?_⟩
     rcases List.mem_append.mp hl with hl | hl
     ·exact hls l hl
     ·rw [List.mem_singleton.mp hl]; exact ⟨rfl, hw, hws⟩
    split
    ·refine ⟨zHT c2 fun w hw => ?_, hls⟩
     rcases List.mem_cons.mp hw with rfl | hw
     ·exact zAk (by decide) zCd
     ·obtain ⟨t, ht, rfl⟩ := List.mem_map.mp hw
      exact zNt (hts t ht).1
    ·split
     ·refine ⟨zHT c2 fun w hw => ?_, hls⟩
      rcases List.mem_cons.mp hw with rfl | hw
      ·exact zAk (by decide) (zAk (by decide) (zAk (by decide) zCd))
      ·exact zKM (fun t => zNt) (fun t ht => (hts t ht).1) (by lia) w hw
     ·split
      ·refine line _ (by rw [List.length_cons]; lia) fun w hw => ?_
       rcases List.mem_cons.mp hw with rfl | hw
       ·exact ⟨zAk (by decide) zCd, by decide⟩
       ·exact ⟨(hts w hw).1, Nat.le_trans (hts w hw).2 (by decide)⟩
      ·refine line _ (by rw [List.length_cons, zAr]; lia) fun w hw => ?_
       rcases List.mem_cons.mp hw with rfl | hw
       ·exact ⟨zAk (by decide) (zAk (by decide) (zAk (by decide) zCd)), by decide⟩
       ·refine ⟨zKM (fun t => zUA) (fun t ht => (hts t ht).1) (by lia) w hw, ?_⟩
        obtain ⟨i, t, hi, ht, rfl⟩ := zBx hw
        have := (hts t ht).2
        simp only [List.length_cons, quo, List.length_append, List.length_nil]
        lia
theorem zEK : ∀ {l : List PyData}, (∀ x ∈ l, PyData.canLay0 x = true) → PyData.canLayAll0 l = true
 | [], _ => rfl
 | x :: r, h => by
  show (PyData.canLay0 x && PyData.canLayAll0 r) = true
  rw [h x (.head _), zEK fun y hy => h y (.tail _ hy)]; rfl
theorem zFd {n : Nat} : ∀ {l : List PyData}, (∀ x ∈ l, PyData.depth x ≤ n) → PyData.depthAll l ≤ n
 | [], _ => Nat.zero_le _
 | x :: r, h => by
  show max (PyData.depth x) (PyData.depthAll r) ≤ n
  exact Nat.max_le.mpr ⟨h x (.head _), zFd fun y hy => h y (.tail _ hy)⟩
theorem zJe : ∀ (m : Nat) {d : PyData}, zAs m d → PyData.canLay0 d = true ∧ PyData.depth d ≤ m
 | m, d, h => by
  have leaf : zDg d → PyData.canLay0 d = true ∧ PyData.depth d ≤ m := fun h => by
   obtain ⟨t, rfl, _, ht⟩ := h
   exact ⟨zKL fun c hc => zKP (ht c hc), Nat.zero_le _⟩
  cases m with
  | zero => exact leaf h
  | succ m =>
   rcases h with h | ⟨k, kids, rfl, hk, hn, hkids⟩
   ·exact leaf h
   ·have ih : ∀ x ∈ kids, PyData.canLay0 x = true ∧ PyData.depth x ≤ m := fun x hx => zJe m (hkids x hx)
    refine ⟨zEK (l := .str k :: kids) fun x hx => ?_, ?_⟩
    ·rcases List.mem_cons.mp hx with rfl | hx
     ·rcases hk with rfl | rfl | rfl | rfl <;> decide +kernel
     ·exact (ih x hx).1
    ·rw [PyData.depth]
     have := zFd (n := m) (l := .str k :: kids) fun x hx => by
      rcases List.mem_cons.mp hx with rfl | hx
      ·exact Nat.zero_le _
      ·exact (ih x hx).2
     omega
theorem zQE (m B : Nat) : ∀ kids : List PyData, (∀ x ∈ kids, (wr m x).2.length ≤ B) → (kids.flatMap fun x => (wr m x).2).length ≤ kids.length * B
 | [], _ => Nat.zero_le _
 | x :: r, h => by
  have h1 := h x (.head _)
  have h2 := zQE m B r fun y hy => h y (.tail _ hy)
  rw [List.flatMap_cons, List.length_append, List.length_cons, Nat.add_mul]
  omega
noncomputable def bndL : Nat → Nat
 | 0 => 0
 | m + 1 => 6 * bndL m + 1
theorem zJY : ∀ (m : Nat) {d : PyData}, zAs m d → (wr m d).2.length ≤ bndL m
 | 0, d, h => by
  obtain ⟨t, e, _⟩ := h
  rw [zBU 0 e]; exact Nat.zero_le _
 | m + 1, d, h => by
  rcases h with h | ⟨k, kids, rfl, hk, hn, hkids⟩
  ·obtain ⟨t, e, _⟩ := h
   rw [zBU (m + 1) e]; exact Nat.zero_le _
  ·have h1 := zQE m (bndL m) kids fun x hx => zJY m (hkids x hx)
   have h2 : kids.length * bndL m ≤ 6 * bndL m := Nat.mul_le_mul_right _ hn
   rw [zCD]
   show _ ≤ 6 * bndL m + 1
   split
   ·show (kids.flatMap fun x => (wr m x).2).length ≤ _; lia
   ·split
    ·show (kids.flatMap fun x => (wr m x).2).length ≤ _; lia
    ·split <;> (show ((kids.flatMap fun x => (wr m x).2) ++ [_]).length ≤ _; rw [List.length_append]; show _ + 1 ≤ _; lia)
theorem zFz (ws : List (List Nat)) : Txt.join " " ((ws.map zAT).map tx) = tx (zAc ws) := by
 rw [zHX, List.map_map]
 exact zDp ws
theorem zPS (P : Params) (d t : PyData) (x : Str) (all : List SV) (K : Kt) (hK : K .next ⟨zCL d t x, [.tab 746, .list all, .gone]⟩) : ∀ (rest : List Ln) (j : Nat), (∀ l ∈ rest, LnOk l) → (∀ n led, SvsT n led all all) →
  forE (zAN zBe (zAl zFs)) (fun st k => ev (cfLw P) 595 zBe (.sts (zAZ zFs)) st k) (.obj 1) all (.it true (.obj 1)) 2 j ((rest.map zCR).map svOf) ⟨zCL d t x, [.tab 746, .list all, .it true (.obj 1) j]⟩ K := by
 intro rest
 induction rest with
 | nil =>
  intro j _ _
  exact ⟨rfl, rfl, hK⟩
 | cons l r ih =>
  intro j h hall
  obtain ⟨hl, hn, hw⟩ := h l (.head _)
  refine ⟨rfl, rfl, ?_⟩
  show zAN zBe (zAl zFs) (.dat (zCR l)) ⟨zCL d t x, [.tab 746, .list all, .it true (.obj 1) (j + 1)]⟩ _
  rw [zTN]
  refine ⟨false, [.dat (.list (zAJ l.1)), .str (tx l.2)], rfl, zNE.1.symm, ?_⟩
  rw [zNE.2]
  show ev (cfLw P) 595 zBe (.sts (zAZ zFs)) ⟨zCL d t x ++ [(("words" : Str), .dat (.list (zAJ l.1))), ("line", .str (tx l.2))], [.tab 746, .list all, .it true (.obj 1) (j + 1)]⟩ _
  rw [zPQ]
  have okl : okF 3 (zCL d t x ++ [(("words" : Str), .dat (.list (zAJ l.1))), ("line", .str (tx l.2))]) := ⟨trivial, trivial, by show 1 < 3; lia, trivial, trivial, trivial, trivial⟩
  refine zBR (src := .dat (.list (zAJ l.1))) (all := (zAJ l.1).map svOf) (slot := .it true (.dat (.list (zAJ l.1)))) (pre := [.tab 746, .list all, .it true (.obj 1) (j + 1)]) (fl := []) (zCL d t x ++ [(("words" : Str), .dat (.list (zAJ l.1))), ("line", .str (tx l.2))]) _ (fun i => (l.1[i]?).map fun w => .str (tx (zAT w)))
   (fun n led h => .cons .tab (.cons (.list (hall _ _)) (.cons (.it (.keep (by have : 3 ≤ n := h; lia))) .nil))) trivial okl (fun _ _ _ _ => .it (.same trivial)) (fun a b => rfl) (by rw [zAL, sizeLine_eq]; lia) (fun i y zs K' Dd hx hK' hD => ?_) ?_
  ·rw [zBu, Option.map_eq_some_iff] at hx
   obtain ⟨w, hw1, rfl⟩ := hx
   obtain ⟨c1, c2⟩ := hw w (List.mem_of_getElem? hw1)
   show zAN cnLw (zAp lcLw) (.str (tx w)) ⟨[], _⟩ _
   rw [zRx]
   refine ⟨by rw [zAF]; lia, zKL c1, ?_⟩
   have hs := hK' (.str (tx (zAT w))) (by rw [hw1]; rfl) [("word", .str (tx w))] []
   have e : zBn (tx w) = tx (zAT w) := by
    show tx (zAT (tx w).cps.toList) = _
    rw [zBV]
   rw [e]
   exact hs
  ·rw [zAL, zBc]
   have hsum := zCr (fun w => (zAT w).length) (5 * 100000 + 2) l.1 fun w hx => by
    have := zBg w; have := (hw w hx).2; lia
   have hm : l.1.length * (5 * 100000 + 2) ≤ 10 * (5 * 100000 + 2) := Nat.mul_le_mul_right _ hn
   have hll := zFJ 100000 l.1 fun w hx => (hw w hx).2
   refine ⟨(l.1.map zAT).map tx, by unfold zAJ; rw [List.map_map, List.map_map, List.map_map]; rfl, zCZ ?_, ?_, ?_⟩
   ·rw [zHF, List.length_map, List.length_map, List.map_map]
    have : (" " : Str).length = 1 := by rfl
    rw [this]
    have e : (l.1.map (List.length ∘ zAT)).sum = (l.1.map fun w => (zAT w).length).sum := rfl
    rw [e]
    lia
   ·rw [zFz, zAF, sizeLine_eq]; lia
   ·rw [zFz, hl, zOq]
    show ∃ st₃, Trim 3 ⟨zCL d t x ++ _, _⟩ st₃ ∧ _
    refine ⟨⟨zCL d t x, [.tab 746, .list all, .it true (.obj 1) (j + 1)]⟩, ?_, ?_⟩
    ·exact zHZ (n := 3) (loc := zCL d t x) ⟨trivial, trivial, by show 1 < 3; lia, trivial, trivial⟩ (.cons .tab (.cons (.list (hall _ _)) (.cons (.it (.keep (by lia))) .nil)))
    ·exact ih (j + 1) (fun y hy => h y (.tail _ hy)) hall
theorem zPT (P : Params) (xs : List Int) (hlen : xs.length ≤ 1000) (k : Kt) (hk : ∀ loc l, k (.ret (.bool true)) ⟨loc, .tab 746 :: l⟩) : ev (cfLw P) 600 zBe (.sts (zAE s810)) ⟨[("script", .dat (.list (xs.map .int)))], [.tab 746]⟩ k := by
 rw [zUY]
 refine ⟨xs, rfl, hlen, ?_⟩
 have htree := zLr xs
 obtain ⟨tl, ht⟩ := zKS xs
 rw [ht] at htree ⊢
 show ev (cfLw P) 599 zBe (.sts ((zAE s810).drop 1)) ⟨[("script", .dat (.list (xs.map .int))), ("tree", .dat (.list tl))], [.tab 746]⟩ k
 rw [zUX]
 have hls := zJY 3 htree
 have e43 : bndL 3 = 43 := rfl
 refine ⟨.list tl, [], [], rfl, htree, rfl, by rw [List.length_nil]; lia, ?_⟩
 obtain ⟨hcp, hlines⟩ := zSl 3 (by lia) htree
 show ev (cfLw P) 597 zBe (.sts ((zAE s810).drop 3)) ⟨zCL (.list (xs.map .int)) (.list tl) (tx (wr 3 (.list tl)).1), [.tab 746, .list (((wr 3 (.list tl)).2.map zCR).map svOf)]⟩ k
 rw [zUW]
 refine zPS P _ _ _ _ _ ?_ (wr 3 (.list tl)).2 0 hlines fun n led => zAx _ _ _
 rw [zBC, zUV]
 refine ⟨.list tl, htree, rfl, ?_⟩
 show ev (cfLw P) 593 zBe (.ex (zNw (rVal (stAt 4 (zAE s810))))) ⟨zCL _ _ _, _⟩ _
 rw [zTO]
 show cmpA 593 _ .Eq (.dat (.list tl)) (.dat (.list tl)) _
 rw [zNx]
 obtain ⟨h1, h2⟩ := zJe 3 htree
 refine zNo (d := .list tl) (e := .list tl) rfl rfl (by decide) h1 h1 (by rw [Nat.min_self]; lia) ?_
 rw [PySem.SeqAt.eqv_refl _ h1]
 exact hk _ _
set_option maxHeartbeats 200000
noncomputable def zIc : List Obj → BT → Nat → Option BT
 | [], t, _ => some t
 | o :: r, t, n => match ((t.ins n o).get n).isSome with
  | true => zIc r (t.ins n o) (n + 1)
  | false => none
theorem zFh (life : Life) : ∀ (l : List Obj) (t T : BT) (n : Nat) (pre : List Obj), zIc l t n = some T → absHeap t n life = ⟨pre.toArray, life⟩ →
  absHeap T (n + l.length) life = ⟨(pre ++ l).toArray, life⟩
 | [], t, T, n, pre, h, e => by
  simp only [zIc, Option.some.injEq] at h
  subst h
  simpa using e
 | o :: r, t, T, n, pre, h, e => by
  unfold zIc at h
  cases q : ((t.ins n o).get n).isSome with
  | false => rw [q] at h; cases h
  | true =>
   rw [q] at h
   have e' : absHeap (t.ins n o) (n + 1) life = ⟨(pre ++ [o]).toArray, life⟩ := by
    rw [absHeap_ins q, e]
    show Heap.mk _ _ = Heap.mk _ _
    simp
   have z := zFh life r _ T (n + 1) (pre ++ [o]) h e'
   rw [List.length_cons, show n + (r.length + 1) = n + 1 + r.length by lia, z]
   simp
noncomputable def zGo (ok : Thread → Bool) (st : SharedT → Thread → Option (SharedT × Thread)) : Nat → SharedT → Thread → Option SharedT
 | 0, _, _ => none
 | n + 1, s, t => match through t with
  | true => some s
  | false => match ok t with
   | false => none
   | true => match st s t with
    | some (s', t') => zGo ok st n s' t'
    | none => none
theorem zGE {p : Program} {w : World} {n₀ : Nat} {ann : Option Value} : ∀ {n : Nat} {s s' : SharedT} {t : Thread}, zGo (stepOk n₀ ann) (stepT (denote treeTable) p w) n s t = some s' → topRun treeTable p w n₀ ann n s.abs t = some s'.abs
 | 0, _, _, _, h => by cases h
 | n + 1, s, s', t, h => by
  unfold zGo at h
  unfold topRun
  cases he : through t with
  | true => rw [he] at h; cases h; rfl
  | false =>
   rw [he] at h
   cases hk : stepOk n₀ ann t with
   | false => rw [hk] at h; cases h
   | true =>
    rw [hk] at h
    cases hs : stepT (denote treeTable) p w s t with
    | none => rw [hs] at h; cases h
    | some r => obtain ⟨s₂, t₂⟩ := r; rw [hs] at h; rw [stepT_spec hs]; exact zGE h
noncomputable def zQF (p : Program) : SharedT := ⟨.nil, 0, {}, #[], {}, 1, (start (opening p)).1.os⟩
theorem zKe (p : Program) : (zQF p).abs = (start (opening p)).1 := rfl
noncomputable def topW (ok : Nat → Option Value → Thread → Bool) (st : SharedT → Thread → Option (SharedT × Thread)) (p : Program) (m : Nat) (s0 : Shared) : Option SharedT :=
 match zIc s0.heap.objs.toList .nil 0 with
 | none => none
 | some T => zGo (ok s0.heap.objs.size (s0.heap.nsMap mainGlobals "__annotations__")) st m ⟨T, s0.heap.objs.size, s0.heap.life, s0.gens, s0.drawn, s0.toks, s0.os⟩ (topStub p)
noncomputable def zKQ (ig : Nat → SharedT → Thread → Option (SharedT × Thread)) (t0 : Thread) (fm : Shared → Option Shared) (ok : Nat → Option Value → Thread → Bool) (st : SharedT → Thread → Option (SharedT × Thread)) (p : Program) (n m : Nat) : Option (Shared × SharedT) :=
 match ig n (zQF p) t0 with
 | none => none
 | some (S1, t1) => match t1.atExitBegin with
  | some [] => match fm S1.abs with
   | none => none
   | some s0 => match topW ok st p m s0 with
    | none => none
    | some S => some (s0, S)
  | _ => none
theorem zJU {p : Program} {w : World} {n m N : Nat} {s0 : Shared} {S : SharedT} (h : zKQ (impGoT treeTable (opening p) w) (start (opening p)).2 (fenceModules? p) stepOk (stepT (denote treeTable) p w) p n m = some (s0, S)) (hn : n + 1 ≤ N) (hm : m ≤ N) :
  fencedOpening treeTable p w N = some s0 ∧ topRun treeTable p w s0.heap.objs.size (s0.heap.nsMap mainGlobals "__annotations__") N s0 (topStub p) = some S.abs := by
 unfold zKQ at h
 split at h
 ·cases h
 ·rename_i S1 t1 h1
  split at h
  ·rename_i he
   split at h
   ·cases h
   ·rename_i s1 hf
    split at h
    ·cases h
    ·rename_i S2 ht
     cases h
     constructor
     ·have i1 := impGo_of h1
      rw [zKe] at i1
      have e1 : importEnds treeTable (opening p) w 1 S1.abs t1 = some S1.abs := by
       unfold importEnds; rw [he]
      have i2 := imp_go i1 e1
      have i3 := importEnds_mono (N - (n + 1)) _ _ _ _ i2
      rw [show n + 1 + (N - (n + 1)) = N by omega] at i3
      unfold fencedOpening
      rw [i3]
      exact hf
     ·unfold topW at ht
      split at ht
      ·cases ht
      ·rename_i T hT
       have e := zFh s0.heap.life _ _ _ _ [] hT (by rfl)
       have r := zGE ht
       have ee : (SharedT.abs ⟨T, s0.heap.objs.size, s0.heap.life, s0.gens, s0.drawn, s0.toks, s0.os⟩) = s0 := by
        unfold SharedT.abs
        have e' : absHeap T s0.heap.objs.size s0.heap.life = s0.heap := by
         have : 0 + s0.heap.objs.toList.length = s0.heap.objs.size := by simp
         rw [this] at e
         rw [e]
         simp
        rw [e']
       rw [ee] at r
       have r' := topRun_mono (N - m) _ _ _ _ r
       rw [show m + (N - m) = N by omega] at r'
       exact r'
  ·cases h
noncomputable def getT (S : SharedT) (a : Nat) : Option Obj := match Nat.blt a S.n with
 | true => (Heap.mk #[(S.tree.get a).getD default] {}).get? 0
 | false => none
theorem zSP (S : SharedT) (a : Nat) : getT S a = S.abs.heap.get? a := by
 have q : S.abs.heap.objs[a]? = _ := absHeap_at S.tree S.n S.life a
 unfold getT Heap.get?
 rw [q]
 cases e : Nat.blt a S.n with
 | true => rw [if_pos (show a < S.n from Nat.le_of_ble_eq_true e)]; rfl
 | false => rw [if_neg fun g : a < S.n => Bool.noConfusion (e.symm.trans (Nat.ble_eq_true_of_le g))]
theorem zPP {p q : Program} {loose : List Str} {Xt : Shared → Bool} {α : Type} {Yf : Shared → α} {Yt : SharedT → α} {Ya : World → α} {N n m : Nat} (hY : ∀ S, Yt S = Yf S.abs) (hn : n + 1 ≤ N) (hm : m ≤ N)
  (h : ∀ w : World, (zKQ (impGoT treeTable (opening p) w) (start (opening p)).2 (fenceModules? p) stepOk (stepT (denote treeTable) p w) p n m).map (fun x => (x.1.heap.isNs mainGlobals && x.1.gens.size == 0,
    staticsOk (importedModules p.main.body) x.1.heap x.2.abs.heap && namesBound p x.2.abs.heap && gensDone x.2.abs && laidKept x.1.heap x.2.abs.heap,
    openSeen q loose (importedModules p.main.body) Xt true x.2.abs, Yt x.2)) = some (true, true, openGood q loose, Ya w)) : LeftO p q loose Xt Yf Ya N := fun w => by
 obtain ⟨⟨s0, S⟩, e1, e2⟩ := Option.map_eq_some_iff.mp (h w)
 obtain ⟨r1, r2⟩ := zJU e1 hn hm
 simp only [Prod.mk.injEq] at e2
 obtain ⟨a, b, c, d⟩ := e2
 unfold openEnds
 rw [r1]
 have t : topFrom treeTable p w N s0 = some S.abs := by
  unfold topFrom
  rw [a, r2]
  show (match staticsOk (importedModules p.main.body) s0.heap S.abs.heap && namesBound p S.abs.heap && gensDone S.abs && laidKept s0.heap S.abs.heap with | true => _ | false => _) = _
  rw [b]
 show (topFrom treeTable p w N s0).map _ = _
 rw [t]
 exact congrArg some (Prod.ext c ((hY S).symm.trans d))
noncomputable def vw : Program := { Challenge.pw_mq0411_01 with main := { Challenge.pw_mq0411_01.main with body := Challenge.pw_mq0411_01.main.body.drop 38 } }
noncomputable def loose : List Str := ["_sre", "deque", "_wall", "_twin_re_1", "_whence", "_index", "UnsupportedOperation", "IOBase", "BufferedIOBase", "TextIOBase", "BytesIO", "StringIO", "_kind", "_fspath", "_check_arg_types", "isabs", "join", "join_path", "dirname", "shlex", "split", "join_shlex", "_find_unsafe", "quote", "parse_keqv_list", "parse_http_list", "_law_text", "_law_tree", "_law_marked", "_law_written", "_law_word", "_law_read"]
noncomputable def ka : List Nat := [3, 4, 48, 49, 62, 63, 89, 90, 92, 93, 94, 119, 120, 350, 360, 366, 367, 373, 374, 380, 381, 536, 542, 543, 565, 566, 572, 573, 596, 597, 649, 655, 656, 662, 663, 664, 692, 693, 699, 700, 721, 722, 728, 729, 731, 732, 737, 743, 744, 750, 751, 752, 758, 759, 765, 766, 770, 771, 777, 778, 784, 785, 789, 790, 794, 795, 799, 800, 804, 805, 809, 810]
noncomputable def zMn (x : Str) (o : Option Obj) : Bool := match o with
 | some o => match lookIn x o with
  | some v => v.isNone
  | none => false
 | none => false
noncomputable def zPG (o : Option Obj) : Bool := match o with
 | none => false
 | some o => match o.cls with
  | .none => match o.dict with
   | none => match o.data with
    | .fields ps => match ps.toList with
     | [] => o.slots.toList.isEmpty
     | _ :: _ => false
    | _ => false
   | some _ => false
  | _ => false
noncomputable def seeK (s : Shared) : List (Option Obj) × Bool := (ka.map fun a => s.heap.get? a, zMn "thirdparty.any" (s.heap.get? cStatics) && (zPG (s.heap.get? 746) && (s.heap.get? sysModules).isSome))
noncomputable def seeT (s : SharedT) : List (Option Obj) × Bool := (ka.map fun a => getT s a, zMn "thirdparty.any" (getT s cStatics) && (zPG (getT s 746) && (getT s sysModules).isSome))
theorem zRW (S : SharedT) : seeT S = seeK S.abs := by
 unfold seeT seeK
 rw [funext (zSP S)]
noncomputable def zPf (w : World) : List (Option Obj) × Bool := ([some (o3 w.params), some (o4 w.params), some (o48 w.params), some (o49 w.params), some (o62 w.params), some (o63 w.params), some (o89 w.params), some (o90 w.params), some (o92 w.params), some (o93 w.params), some (o94 w.params), some (o119 w.params), some (o120 w.params), some (o350 w.params), some (o360 w.params), some (o366 w.params), some (o367 w.params), some (o373 w.params), some (o374 w.params), some (o380 w.params), some (o381 w.params), some (o536 w.params), some (o542 w.params), some (o543 w.params), some (o565 w.params), some (o566 w.params), some (o572 w.params), some (o573 w.params), some (o596 w.params), some (o597 w.params), some (o649 w.params), some (o655 w.params), some (o656 w.params), some (o662 w.params), some (o663 w.params), some (o664 w.params), some (o692 w.params), some (o693 w.params), some (o699 w.params), some (o700 w.params), some (o721 w.params), some (o722 w.params), some (o728 w.params), some (o729 w.params), some (o731 w.params), some (o732 w.params), some (o737 w.params), some (o743 w.params), some (o744 w.params), some (o750 w.params), some (o751 w.params), some (o752 w.params), some (o758 w.params), some (o759 w.params), some (o765 w.params), some (o766 w.params), some (o770 w.params), some (o771 w.params), some (o777 w.params), some (o778 w.params), some (o784 w.params), some (o785 w.params), some (o789 w.params), some (o790 w.params), some (o794 w.params), some (o795 w.params), some (o799 w.params), some (o800 w.params), some (o804 w.params), some (o805 w.params), some (o809 w.params), some (o810 w.params)], true)
theorem run1 : ∀ w : World, (zKQ (impGoT treeTable (opening Challenge.pw_mq0411_01) w) (start (opening Challenge.pw_mq0411_01)).2 (fenceModules? Challenge.pw_mq0411_01) stepOk (stepT (denote treeTable) Challenge.pw_mq0411_01 w) Challenge.pw_mq0411_01 1085 5300).map (fun x => (x.1.heap.isNs mainGlobals && x.1.gens.size == 0,
    staticsOk (importedModules Challenge.pw_mq0411_01.main.body) x.1.heap x.2.abs.heap && namesBound Challenge.pw_mq0411_01 x.2.abs.heap && gensDone x.2.abs && laidKept x.1.heap x.2.abs.heap,
    openSeen vw loose (importedModules Challenge.pw_mq0411_01.main.body) (fun _ => true) true x.2.abs, seeT x.2)) = some (true, true, openGood vw loose, zPf w) := by
 rw [PySem.W.Fast.te14789777615569096658, PySem.W.Fast.te14364793385576792824, PySem.W.Fast.te1435165496053646825, PySem.W.Fast.te14289696077712309145, PySem.W.Fast.te6613529449190102663, PySem.W.Fast.te10156331382660048174, PySem.W.Fast.te11892475500146522536, PySem.W.Fast.te4187177175401517315]
 intro w
 kernel_rfl
set_option maxHeartbeats 4000000
noncomputable def lawS : Stmt := stAt 38 Challenge.pw_mq0411_01.main.body
noncomputable def fPos : Stmt → Pos
 | .FunctionDef _ _ _ _ _ _ _ _ _ p => p
 | _ => default
noncomputable def dLaw : DefRec := ⟨"law", zBJ lawS, zAE lawS, zAB lawS, fPos lawS⟩
theorem zUU : LeftO Challenge.pw_mq0411_01 vw loose (fun _ => true) seeK zPf 5400 := zPP zRW (n := 1085) (m := 5300) (by lia) (by lia) run1
noncomputable def YK (w : World) (h : Heap) : Prop := (KK w.params).In h ∧ (∃ o, h.get? cStatics = some o ∧ lookIn "thirdparty.any" o = some none) ∧ (h.get? 746 = some { cls := .none, data := .fields #[] }) ∧ ∃ o, h.get? sysModules = some o
theorem zPH {x : Str} {o : Option Obj} (h : zMn x o = true) : ∃ y, o = some y ∧ lookIn x y = some none := by
 cases o with
 | none => exact Bool.noConfusion h
 | some y =>
  unfold zMn at h
  dsimp only at h
  cases q : lookIn x y with
  | none => rw [q] at h; exact Bool.noConfusion h
  | some v =>
   rw [q] at h
   cases v with
   | none => exact ⟨y, rfl, q⟩
   | some _ => exact Bool.noConfusion h
theorem zPF {o : Option Obj} (h : zPG o = true) : o = some { cls := .none, data := .fields #[] } := by
 cases o with
 | none => exact Bool.noConfusion h
 | some o =>
  obtain ⟨c, d, e, ⟨sl⟩⟩ := o
  cases c <;> first | exact Bool.noConfusion h | skip
  cases d <;> first | exact Bool.noConfusion h | skip
  cases e <;> first | exact Bool.noConfusion h | skip
  rename_i vs
  obtain ⟨vs⟩ := vs
  cases vs <;> first | exact Bool.noConfusion h | skip
  cases sl <;> first | exact Bool.noConfusion h | rfl
theorem zRX (w : World) (s : Shared) (h : seeK s = zPf w) : YK w s.heap := by
 have h2 : (zMn "thirdparty.any" (s.heap.get? cStatics) && (zPG (s.heap.get? 746) && (s.heap.get? sysModules).isSome)) = true := congrArg Prod.snd h
 rw [Bool.and_eq_true, Bool.and_eq_true] at h2
 exact ⟨Frag.in_of (as := ka) (by kernel_rfl) (congrArg Prod.fst h), zPH h2.1, zPF h2.2.1, Option.isSome_iff_exists.mp h2.2.2⟩
theorem zUM : Challenge.rw_mq0411_01.wellSaid = true := by
 rw [PySem.W.Fast.te9446332074065402090]
 delta PySem.W.Fast.tw9446332074065402090
 refine look_both (look_both ?_ (by decide +kernel)) (by kernel_rfl)
 iterate 16 refine look_both ?_ (by kernel_rfl)
 delta PySem.W.Fast.tw17960256430627541270
 iterate 2 refine look_both ?_ (by kernel_rfl)
 delta PySem.W.Fast.tw2436336058641802641
 iterate 13 refine look_both ?_ (by kernel_rfl)
 delta PySem.W.Fast.tw12908688711261696721
 refine look_both (look_both (look_both (look_both (look_both (by decide +kernel) (by decide +kernel)) (by decide +kernel)) (by kernel_rfl)) (by decide +kernel)) (by decide +kernel)
theorem head1 (call : WalkO vw loose (fun _ _ => True) YK Challenge.rw_mq0411_01.row.toRowW dLaw [] fun f vs => PySem.call f vs) : Challenge.rw_mq0411_01.Holds := by
 refine holds_law zUM fun said => ?_
 refine holds_open (q := vw) (loose := loose) (Xt := fun _ => true) (XP := fun _ _ => True) (Yf := seeK) (Ya := zPf) (YP := YK) (N := 5400) (d := dLaw) (kwd := []) zUU zRX ?_ (fun _ _ => trivial) (fun _ _ _ _ _ => trivial) ?_ ?_ ?_ ?_ ?_ said ?_ ?_ ?_ call
 ·intro w h h' y k
  obtain ⟨y1, ⟨o, a, b⟩, a2, o3, a3⟩ := y
  exact ⟨fun a o e => k a o (y1 a o e), ⟨o, k _ _ a, b⟩, k _ _ a2, o3, k _ _ a3⟩
 ·kernel_rfl
 ·kernel_rfl
 ·kernel_rfl
 ·intro s _; exact recFacts_nil (by kernel_rfl)
 ·rfl
 ·kernel_rfl
 ·exact ⟨rfl, rfl, rfl, rfl, rfl, by decide +kernel⟩
 ·exact ⟨[.list []], by decide +kernel, by decide +kernel⟩
set_option maxHeartbeats 1000000
theorem zOz {B : Heap} {fz : List (Addr × Obj)} : ∀ {vs : List Value} {xs : List Int}, IntsAre vs xs → RdL B fz vs (xs.map .int) := by
 intro vs xs r
 induction r with
 | nil => exact .nil
 | cons x t _ ih => exact .cons (.int _ _) ih
theorem zNm (xs : List Int) (h : xs.length ≤ 1000) : Fits (.list (xs.map .int)) := .list (by rw [List.length_map, sizeLine_eq]; lia) fun d hd => by
 obtain ⟨x, _, rfl⟩ := List.mem_map.mp hd
 exact .int x
theorem zNf {h : Heap} {P : Params} {mg mb : Str → Option Value} {p : Program} {loose : List Str} {mean : ExcName → Option Value} (T : Top p loose mean mg mb h) (hs : ∃ o, h.get? cStatics = some o ∧ lookIn "thirdparty.any" o = some none) (hm : ∃ o, h.get? sysModules = some o) : GlobOk (hideAll h [746]) := by
 have ne : ∀ {b : Addr}, b ≠ 746 → b ∉ [746] := fun hb q => hb (List.mem_singleton.mp q)
 refine ⟨?_, ⟨mg, mb, T.g.at' fun o q => hideAll_get _ q (ne (by decide)), T.b.at' fun o q => hideAll_get _ q (ne (by decide)), T.builtins⟩, ?_, ?_⟩
 ·obtain ⟨mc, h1, h2⟩ := T.nolimit
  exact ⟨mc, h1.at' fun o q => hideAll_get _ q (ne (by decide)), h2⟩
 ·obtain ⟨o, a, b⟩ := hs
  exact ⟨o, hideAll_get _ a (ne (by decide)), b⟩
 ·obtain ⟨o, a⟩ := hm
  exact ⟨o, hideAll_get _ a (ne (by decide))⟩
theorem zSB {P : Params} {h : Heap} (X : (KK P).In h) : (KK P).In (hideAll h [746]) := fun a o e => by
 refine hideAll_get _ (X a o e) fun q => ?_
 rw [List.mem_singleton.mp q] at e
 have : (KK P).lookup 746 = none := by kernel_rfl
 rw [this] at e; cases e
structure LawEnd (s s' : Shared) : Prop where
 old : OldK s.heap s'.heap
 os : s'.os = s.os
 gens : AllBare s'.gens
theorem zRw {w : World} {s : Shared} {a : Addr} {vs : List Value} {xs : List Int} {mg mb : Str → Option Value} {p : Program} {loose : List Str} {mean : ExcName → Option Value} {E : Value → Shared → Prop} {Q : Value → Shared → Prop}
  (T : Top p loose mean mg mb s.heap) (Y : YK w s.heap) (hg : s.gens = #[]) (hL : s.heap.IsList a vs.toArray) (hI : IntsAre vs xs) (hlen : xs.length ≤ 1000) (hQ : ∀ s', LawEnd s s' → Q (.bool true) s') : wpAny (model prog w) callerA (call (.ref 810) [.ref a]) Q E s := by
 obtain ⟨X, hst, h7, hsm⟩ := Y
 refine wpAny_call ?_
 have ha : a ≠ 746 := fun e => by
  obtain ⟨o, q, _, n, q2⟩ := hL
  rw [e, h7] at q
  cases q; cases q2
 have hne : ∀ {b : Addr}, b ≠ 746 → b ∉ [746] := fun hb q => hb (List.mem_singleton.mp q)
 refine zIQ (C := cfLw w.params) (e := f810) (svs := [.dat (.list (xs.map .int))]) false [(746, tabO #[])] ⟨[(746, 0)], []⟩ [.tab 746] (zTZ _) (zAR (by kernel_rfl)) (fun p hp => by rw [List.mem_singleton.mp hp]; exact h7) (by simp) rfl
  (LedR.cons (One.tab (P := w.params) (a := 746) (d := 0) (ps := #[]) trivial) LedR.nil) (zSB X) (zNf (P := w.params) T hst hsm) (fun _ => ⟨rfl, rfl⟩) rfl (by decide) (.cons ?_ .nil) rfl ?_
 ·refine ⟨⟨a, rfl⟩, zNm xs hlen, ?_⟩
  obtain ⟨o, q1, q2, n, q3⟩ := hL
  exact .list (.inl (hideAll_get _ q1 (hne ha))) q2 q3 (zOz hI)
 ·intro F' h₁ t ok eA eS eh eB eq R
  refine wpAny_mono (zBs (zUp w) 600 F' _ (.sts f810.body) _ _ ⟨[(746, 0)], []⟩ _ (fun c s' => match c with
   | .fl (.ret v) => Q v s'
   | _ => False) ok (by rw [eA]; show callerA.depth + 1 + 600 < _; decide) (by rw [eA]; show callerA.units + 3 + 8 * 600 < _; decide) (by rw [eS]; exact zPT w.params xs hlen (fun r st' => r = .ret (.bool true) ∧ ∃ l, st'.led = .tab 746 :: l) fun loc l => ⟨rfl, l, rfl⟩) R ?_) (fun f s' q => ?_) fun _ _ q => q
  rotate_left
  ·cases f with
   | ret v => exact q
   | _ => exact q.elim
  rintro r st' more c s' ⟨rfl, l, hl⟩ R' nx dr
  cases c with
  | fl fl => cases fl with
   | ret v =>
    cases dr
    refine hQ s' ⟨?_, nx.os, fun y hy => ?_⟩
    ·obtain ⟨m, news, lw, RX⟩ := R'
     have keep : ∀ b o, b ≠ 746 → s.heap.get? b = some o → s'.heap.get? b = some o := fun b o hb e => RX.fr.keep b o (by rw [eh]; exact hideAll_get _ e (hne hb))
     have htab : ∃ ps, s'.heap.get? 746 = some (tabO ps) := by
      have hi : st'.led[0]? = some (.tab 746) := by rw [hl]; rfl
      obtain ⟨pre, ps, post, a', d', h1, h2, h3, h4⟩ := RX.led.at hi
      clear h4
      obtain ⟨rfl, ps, ht, rfl⟩ := h3.inv
      ·exact ⟨ps, (RX.nw (746, tabO ps) (by rw [h1]; simp)).1⟩
     obtain ⟨ps, htab⟩ := htab
     refine ⟨fun b o e => ?_, fun b o e => ?_⟩
     ·by_cases hb : b = 746
      ·subst hb
       rw [h7] at e; cases e
       exact .inr (.inl ⟨(zGF X h7).isCodeTable, rfl, #[], ps, rfl, by rw [htab]; simp⟩)
      ·exact .inl (keep b o hb e)
     ·by_cases hb : b = 746
      ·subst hb; exact ⟨_, htab⟩
      ·exact ⟨o, keep b o hb e⟩
    ·obtain ⟨i, hi, e⟩ := Array.mem_iff_getElem.mp hy
     have hy' : s'.gens[i]? = some y := by rw [Array.getElem?_eq_getElem hi, e]
     rcases nx.done i y hy' with q | q
     ·have q' : s.gens[i]? = some y := q
      rw [hg] at q'; simp at q'
     ·exact q
   | _ => exact dr.elim
  | _ => exact dr.elim
theorem zPR (l : OpenLaw) (args ds : List WData) : l.row.toRowW.claim.post args (.bool true) ds = true := by
 show (WShape.has l.row.records (.bool true) .bool && WTm.holds l.row.records (.eq .res (.lit (.bool true))) { args := args, res := some (.bool true), after := ds }) = true
 have h1 : WShape.has l.row.records (.bool true) .bool = true := by kernel_rfl
 have h2 : PySem.W.same (.bool true) (.bool true) = true := by first | decide | rfl | simp [PySem.W.same] | decide +kernel
 rw [h1]
 simp [WTm.holds, WTm.value, h2]
theorem call1 : WalkO vw loose (fun _ _ => True) YK Challenge.rw_mq0411_01.row.toRowW dLaw [] fun f vs => PySem.call f vs := by
 intro w s₀ s₁ mg mb G Y fa o pm cd doc dV kV ho hd hcd hD hmg hg args vals as hpre hlay hrd hwl hlo
 have T := G.T
 have hfa : mg "law" = some (.ref 810) := mg_of Y.1 T.g (by kernel_rfl)
 have e810 : fa = 810 := by
  have h2 : mg "law" = some (.ref fa) := hmg
  rw [hfa] at h2; cases h2; rfl
 subst e810
 clear G hD ho hd hcd hmg hfa
 wrow_args hpre hlay hrd hwl hlo
 rename_i xs _ _ _ _ _ _ a vs _ hL _ _ _ hI _ hc _
 rw [← show prog = Challenge.rw_mq0411_01.row.prog from by unfold prog; rfl]
 refine zRw T Y hg hL hI (by lia) fun s' q => ?_
 refine ⟨.inl ⟨.bool true, .bool true, [], rfl, fun cls => rfl, ?_, ?_, fun _ => ⟨List.nodup_nil, fun a h => nomatch h⟩⟩, q.old, q.os, q.gens⟩
 ·exact .bool true
 ·exact zPR _ _ _
end Mine
theorem PySem.Challenge.cw_mq0411_01_holds : PySem.Challenge.rw_mq0411_01.Holds :=
  Mine.head1 Mine.call1
