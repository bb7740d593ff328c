import PyProof.Rows.All
import Wide.All
import OpenK.AllK
import Lean
import PySem.Challenge.RW_mq0411_01
open PySem PySem.W PySem.Calls PyProof.Rows
set_option Elab.async false
set_option genSizeOf false
set_option genInjectivity false
set_option bootstrap.genMatcherCode false
set_option maxRecDepth 100000
set_option linter.unusedVariables false
namespace Mine
set_option maxHeartbeats 200000
set_option backward.match.sparseCases false
@[irreducible] noncomputable def prog : Program := Challenge.pw_mq0411_01
inductive SV where
 | none
 | bool (b : Bool)
 | int (i : Int)
 | str (s : Str)
 | val (v : Value)
 | obj (i : Nat)
 | dat (d : PyData)
 | sg (c : Nat) (es fs : List (Str × Bool))
inductive SO where
 | inst (C : Addr) (fs : List (Str × SV))
 | raw (o : Obj)
 | list (xs : List SV)
 | tup (xs : List SV)
 | cell (v : Option SV)
 | dic (fs : List (Str × SV))
 | it (b : Bool) (src : SV) (j : Nat)
 | itr (n j : Nat)
 | rng (n : Nat)
 | gone
 | tab (p : Addr)
structure St where
 loc : List (Str × SV)
 led : List SO
noncomputable abbrev onInst (o : Option SO) (f : Addr → List (Str × SV) → Prop) : Prop := match o with
 | none => False
 | some x => match x with
  | .inst c fs => f c fs
  | _ => False
noncomputable abbrev onLst (o : Option SO) (f : List SV → Prop) : Prop := match o with
 | none => False
 | some x => match x with
  | .list xs => f xs
  | _ => False
noncomputable abbrev onTup (o : Option SO) (f : List SV → Prop) : Prop := match o with
 | none => False
 | some x => match x with
  | .tup xs => f xs
  | _ => False
noncomputable abbrev onCel (o : Option SO) (f : Option SV → Prop) : Prop := match o with
 | none => False
 | some x => match x with
  | .cell v => f v
  | _ => False
noncomputable abbrev onRaw (o : Option SO) (f : Obj → Prop) : Prop := match o with
 | none => False
 | some x => match x with
  | .raw v => f v
  | _ => False
noncomputable abbrev onOpt {α : Type} (o : Option α) (f : α → Prop) : Prop := match o with
 | none => False
 | some x => f x
noncomputable abbrev onTr (b : Bool) (p : Prop) : Prop := match b with
 | true => p
 | false => False
theorem onInst_some {o : Option SO} {f : Addr → List (Str × SV) → Prop} (h : onInst o f) : ∃ c fs, o = some (.inst c fs) ∧ f c fs := by
 cases o with
 | none => exact h.elim
 | some x => cases x <;> first | exact ⟨_, _, rfl, h⟩ | exact h.elim
theorem onLst_some {o : Option SO} {f : List SV → Prop} (h : onLst o f) : ∃ c, o = some (.list c) ∧ f c := by
 cases o with
 | none => exact h.elim
 | some x => cases x <;> first | exact ⟨_, rfl, h⟩ | exact h.elim
theorem onTup_some {o : Option SO} {f : List SV → Prop} (h : onTup o f) : ∃ c, o = some (.tup c) ∧ f c := by
 cases o with
 | none => exact h.elim
 | some x => cases x <;> first | exact ⟨_, rfl, h⟩ | exact h.elim
theorem onCel_some {o : Option SO} {f : Option SV → Prop} (h : onCel o f) : ∃ c, o = some (.cell c) ∧ f c := by
 cases o with
 | none => exact h.elim
 | some x => cases x <;> first | exact ⟨_, rfl, h⟩ | exact h.elim
theorem onRaw_some {o : Option SO} {f : Obj → Prop} (h : onRaw o f) : ∃ c, o = some (.raw c) ∧ f c := by
 cases o with
 | none => exact h.elim
 | some x => cases x <;> first | exact ⟨_, rfl, h⟩ | exact h.elim
theorem onOpt_some {α : Type} {o : Option α} {f : α → Prop} (h : onOpt o f) : ∃ c, o = some c ∧ f c := by
 cases o with
 | none => exact h.elim
 | some x => exact ⟨_, rfl, h⟩
theorem onTr_some {b : Bool} {p : Prop} (h : onTr b p) : b = true ∧ p := by
 cases b with
 | false => exact h.elim
 | true => exact ⟨rfl, h⟩
inductive SR where
 | v (x : SV)
 | b (x : Bool)
 | vs (l : List SV)
 | next
 | brk
 | cont
 | ret (x : SV)
noncomputable abbrev Kt := SR → St → Prop
noncomputable def lk {α : Type} (x : Str) : List (Str × α) → Option α
 | [] => none
 | (y, a) :: r => match Fast.sEq x y with
  | true => some a
  | false => lk x r
noncomputable def put {α : Type} (x : Str) (v : α) : List (Str × α) → List (Str × α)
 | [] => [(x, v)]
 | (y, a) :: r => match Fast.sEq x y with
  | true => (y, v) :: r
  | false => (y, a) :: put x v r
noncomputable def toSV : Value → SV
 | .none => .none
 | .bool b => .bool b
 | .int i _ => .int i
 | .str s _ => .str s
 | v => .val v
noncomputable def svOf : PyData → SV
 | .none => .none
 | .bool b => .bool b
 | .int i => .int i
 | .str s => .str s
 | d => .dat d
theorem sEq_true {a b : Str} (h : Fast.sEq a b = true) : a = b := Fast.sEq_iff.mp h
theorem sEq_false {a b : Str} (h : Fast.sEq a b = false) : a ≠ b := fun e => by rw [Fast.sEq_iff.mpr e] at h; cases h
theorem sEq_self (a : Str) : Fast.sEq a a = true := Fast.sEq_iff.mpr rfl
structure Wd where
 ads : List (Addr × Addr)
 fz : List (Addr × Obj)
noncomputable instance : Append Wd := ⟨fun a b => ⟨a.ads ++ b.ads, a.fz ++ b.fz⟩⟩
noncomputable def Wd.nil : Wd := ⟨[], []⟩
theorem Wd.append_nil (a : Wd) : a ++ Wd.nil = a := by
 cases a; show Wd.mk _ _ = _; simp [Wd.nil]
theorem Wd.append_assoc (a b c : Wd) : a ++ b ++ c = a ++ (b ++ c) := by
 show Wd.mk (a.ads ++ b.ads ++ c.ads) (a.fz ++ b.fz ++ c.fz) = Wd.mk (a.ads ++ (b.ads ++ c.ads)) (a.fz ++ (b.fz ++ c.fz)); rw [List.append_assoc, List.append_assoc]
noncomputable def Wd.one (a d : Addr) : Wd := ⟨[(a, d)], []⟩
theorem Wd.ads_append (a b : Wd) : (a ++ b).ads = a.ads ++ b.ads := rfl
theorem Wd.fz_append (a b : Wd) : (a ++ b).fz = a.fz ++ b.fz := rfl
inductive Fits : PyData → Prop
 | none : Fits .none
 | bool (b) : Fits (.bool b)
 | int (i) : Fits (.int i)
 | str {s : Str} : s.length ≤ sizeLine → Fits (.str s)
 | list {xs : List PyData} : xs.length ≤ sizeLine → (∀ x ∈ xs, Fits x) → Fits (.list xs)
 | tuple {xs : List PyData} : xs.length ≤ sizeLine → (∀ x ∈ xs, Fits x) → Fits (.tuple xs)
 | dict {kvs : List (PyData × PyData)} : kvs.length ≤ sizeLine → (∀ x ∈ kvs, Fits x.1) → (∀ x ∈ kvs, Fits x.2) → Fits (.dict kvs)
noncomputable def Got (B : Heap) (fz : List (Addr × Obj)) (a : Addr) (o : Obj) : Prop := B.get? a = some o ∨ (a, o) ∈ fz
mutual
/-- a value reads as data, from objects that never change again -/
inductive Rd (B : Heap) (fz : List (Addr × Obj)) : Value → PyData → Prop
 | none : Rd B fz .none .none
 | bool (b) : Rd B fz (.bool b) (.bool b)
 | int (i t) : Rd B fz (.int i t) (.int i)
 | str (x t) : Rd B fz (.str x t) (.str x)
 | list {a : Addr} {o : Obj} {vs : Array Value} {n : Nat} {xs : List PyData} : Got B fz a o → o.cls = .type "list" → o.data = .seq vs n → RdL B fz vs.toList xs → Rd B fz (.ref a) (.list xs)
 | tuple {a : Addr} {o : Obj} {vs : Array Value} {n : Nat} {xs : List PyData} : Got B fz a o → o.cls = .type "tuple" → o.data = .seq vs n → RdL B fz vs.toList xs → Rd B fz (.ref a) (.tuple xs)
inductive RdL (B : Heap) (fz : List (Addr × Obj)) : List Value → List PyData → Prop
 | nil : RdL B fz [] []
 | cons {v : Value} {d : PyData} {vs : List Value} {ds : List PyData} : Rd B fz v d → RdL B fz vs ds → RdL B fz (v :: vs) (d :: ds)
end
theorem Got.mono {B : Heap} {fz gz : List (Addr × Obj)} (s : ∀ p ∈ fz, p ∈ gz) {a : Addr} {o : Obj} (g : Got B fz a o) : Got B gz a o := g.imp id (s _)
mutual
theorem Rd.mono {B : Heap} {fz gz : List (Addr × Obj)} (s : ∀ p ∈ fz, p ∈ gz) : ∀ {v : Value} {d : PyData}, Rd B fz v d → Rd B gz v d
 | _, _, .none => .none
 | _, _, .bool b => .bool b
 | _, _, .int i t => .int i t
 | _, _, .str x t => .str x t
 | _, _, .list g c e r => .list (g.mono s) c e (r.mono s)
 | _, _, .tuple g c e r => .tuple (g.mono s) c e (r.mono s)
theorem RdL.mono {B : Heap} {fz gz : List (Addr × Obj)} (s : ∀ p ∈ fz, p ∈ gz) : ∀ {vs : List Value} {ds : List PyData}, RdL B fz vs ds → RdL B gz vs ds
 | _, _, .nil => .nil
 | _, _, .cons a b => .cons (a.mono s) (b.mono s)
end
noncomputable def Look (B : Heap) (fz : List (Addr × Obj)) (h : Heap) : Prop := B.StaysIn h ∧ ∀ p ∈ fz, h.get? p.1 = some p.2
noncomputable def sgS (c : Nat) : Str := ⟨#[c]⟩
theorem sgS_len (c : Nat) : (sgS c).length = 1 := rfl
noncomputable def inB (a b : Str) : Bool := !(Builtin.Str.occurrences b a 0 b.length 1).isEmpty
noncomputable def Den (B : Heap) (ads : Wd) : SV → Value → Prop
 | .none, v => v = .none
 | .bool b, v => v = .bool b
 | .int i, v => ∃ t, v = .int i t
 | .str s, v => (∃ t, v = .str s t) ∧ s.length ≤ sizeLine
 | .val x, v => v = x ∧ handedIn x = true
 | .obj i, v => ∃ p, ads.ads[i]? = some p ∧ v = .ref p.1
 | .dat d, v => (∃ a, v = .ref a) ∧ Fits d ∧ Rd B ads.fz v d
 | .sg c es fs, v => (∃ t, v = .str (sgS c) t) ∧ (∀ p ∈ es, Fast.sEq (sgS c) p.1 = p.2) ∧ (∀ p ∈ fs, inB (sgS c) p.1 = p.2)
mutual
theorem Rd.reads {B : Heap} {fz : List (Addr × Obj)} {h : Heap} (l : Look B fz h) : ∀ {v : Value} {d : PyData}, Rd B fz v d → ∃ as, Reads h v d as
 | _, _, .none => ⟨_, .none⟩
 | _, _, .bool b => ⟨_, .bool b⟩
 | _, _, .int i t => ⟨_, .int i t⟩
 | _, _, .str x t => ⟨_, .str x t⟩
 | _, _, .list g c e r => let ⟨_, q⟩ := r.reads l; ⟨_, .list (g.elim (l.1 _ _) (l.2 _)) c e q⟩
 | _, _, .tuple g c e r => let ⟨_, q⟩ := r.reads l; ⟨_, .tuple (g.elim (l.1 _ _) (l.2 _)) c e q⟩
theorem RdL.reads {B : Heap} {fz : List (Addr × Obj)} {h : Heap} (l : Look B fz h) : ∀ {vs : List Value} {ds : List PyData}, RdL B fz vs ds → ∃ as, ReadsAll h vs ds as
 | _, _, .nil => ⟨_, .nil⟩
 | _, _, .cons a b => let ⟨_, x⟩ := a.reads l; let ⟨_, y⟩ := b.reads l; ⟨_, .cons x y⟩
end
theorem Den.mono {B : Heap} {ads more : Wd} {x : SV} {v : Value} (h : Den B ads x v) : Den B (ads ++ more) x v := by
 cases x with
 | obj i =>
  obtain ⟨p, hp, e⟩ := h
  refine ⟨p, ?_, e⟩
  rw [Wd.ads_append, List.getElem?_append_left (List.getElem?_eq_some_iff.mp hp).1]; exact hp
 | dat d =>
  obtain ⟨e, f, r⟩ := h
  exact ⟨e, f, r.mono fun p hp => List.mem_append_left _ hp⟩
 | _ => exact h
theorem Den.handed {B : Heap} {ads : Wd} {x : SV} {v : Value} (h : Den B ads x v) : handedIn v = true := by
 cases x with
 | none => cases h; rfl
 | bool b => cases h; rfl
 | int i => obtain ⟨t, rfl⟩ := h; rfl
 | str s => obtain ⟨⟨t, rfl⟩, _⟩ := h; rfl
 | val y => obtain ⟨rfl, e⟩ := h; exact e
 | obj i => obtain ⟨p, _, rfl⟩ := h; rfl
 | dat d => obtain ⟨⟨a, rfl⟩, _⟩ := h; rfl
 | sg c es fs => obtain ⟨⟨t, rfl⟩, _⟩ := h; rfl
noncomputable def LocR (B : Heap) (ads : Wd) (loc : List (Str × SV)) (m : Str → Option Value) : Prop := ∀ x sv, lk x loc = some sv → ∃ v, m x = some v ∧ Den B ads sv v
theorem LocR.mono {B : Heap} {ads more : Wd} {loc : List (Str × SV)} {m : Str → Option Value} (h : LocR B ads loc m) : LocR B (ads ++ more) loc m := fun x sv e => let ⟨v, a, b⟩ := h x sv e; ⟨v, a, b.mono⟩
theorem lk_put {α : Type} (x y : Str) (v : α) : ∀ l : List (Str × α), lk y (put x v l) = if y = x then some v else lk y l
 | [] => by
  unfold put lk
  cases h : Fast.sEq y x with
  | true => rw [if_pos (sEq_true h)]
  | false => rw [if_neg (sEq_false h)]; rfl
 | (z, a) :: r => by
  unfold put
  cases h : Fast.sEq x z with
  | true =>
   have e := sEq_true h
   subst e
   show lk y ((x, v) :: r) = _
   unfold lk
   cases q : Fast.sEq y x with
   | true => rw [if_pos (sEq_true q)]
   | false => rw [if_neg (sEq_false q)]
  | false =>
   show lk y ((z, a) :: put x v r) = _
   have ih := lk_put x y v r
   unfold lk
   cases q : Fast.sEq y z with
   | true =>
    have e := sEq_true q
    subst e
    have : y ≠ x := fun e => sEq_false h e.symm
    rw [if_neg this]
   | false => exact ih
theorem LocR.set {B : Heap} {ads : Wd} {loc : List (Str × SV)} {m : Str → Option Value} (h : LocR B ads loc m) {x : Str} {sv : SV} {v : Value} (d : Den B ads sv v) :
  LocR B ads (put x sv loc) (fun y => if y = x then some v else m y) := fun y sw e => by
 rw [lk_put] at e
 by_cases q : y = x
 ·rw [if_pos q] at e; cases e
  exact ⟨v, if_pos q, d⟩
 ·rw [if_neg q] at e
  obtain ⟨v', a, b⟩ := h y sw e
  exact ⟨v', (if_neg q).trans a, b⟩
inductive EntR (P : Params) (B : Heap) (ads : Wd) : List DictEntry → List (Str × SV) → Prop
 | nil : EntR P B ads [] []
 | cons {x : Str} {t : Tok} {v : Value} {sv : SV} {es : List DictEntry} {fs : List (Str × SV)} : Den B ads sv v → EntR P B ads es fs → EntR P B ads (⟨PyData.keyHash P x, .str x t, v⟩ :: es) ((x, sv) :: fs)
theorem EntR.mono {P : Params} {B : Heap} {ads more : Wd} {es : List DictEntry} {fs : List (Str × SV)} (h : EntR P B ads es fs) : EntR P B (ads ++ more) es fs := by
 induction h with
 | nil => exact .nil
 | cons d _ ih => exact .cons d.mono ih
theorem isStr_iff {x y : Str} {t : Tok} : (Value.str x t).isStr y = true ↔ y = x := by
 show (x == y) = true ↔ _
 rw [beq_iff_eq]
 exact ⟨fun e => e.symm, fun e => e.symm⟩
theorem EntR.get {P : Params} {B : Heap} {ads : Wd} {x : Str} {sv : SV} : ∀ {es : List DictEntry} {fs : List (Str × SV)}, EntR P B ads es fs → lk x fs = some sv → ∃ v, getL x es = some (some v) ∧ Den B ads sv v
 | _, _, .nil, e => by cases e
 | _, _, .cons (x := y) (t := t) (v := v) (es := es) d r, e => by
  unfold lk at e
  cases q : Fast.sEq x y with
  | true =>
   rw [q] at e; cases e
   refine ⟨v, ?_, d⟩
   unfold getL
   rw [List.find?_cons]
   have : (Value.str y t).isStr x = true := isStr_iff.mpr (sEq_true q)
   simp only [this]
  | false =>
   rw [q] at e
   obtain ⟨v', a, b⟩ := r.get e
   refine ⟨v', ?_, b⟩
   unfold getL at a ⊢
   rw [List.find?_cons]
   have : (Value.str y t).isStr x = false := by
    cases z : (Value.str y t).isStr x with
    | false => rfl
    | true => exact absurd (isStr_iff.mp z) (sEq_false q)
   simp only [this]
   have z : DictEntry.refKey ⟨PyData.keyHash P y, .str y t, v⟩ = false := rfl
   rw [List.any_cons, z, Bool.false_or]
   exact a
theorem EntR.miss {P : Params} {B : Heap} {ads : Wd} {x : Str} : ∀ {es : List DictEntry} {fs : List (Str × SV)}, EntR P B ads es fs → lk x fs = none → getL x es = some none
 | _, _, .nil, _ => rfl
 | _, _, .cons (x := y) (t := t) (v := v) (es := es) d r, e => by
  unfold lk at e
  cases q : Fast.sEq x y with
  | true => rw [q] at e; cases e
  | false =>
   rw [q] at e
   have a := r.miss e
   unfold getL at a ⊢
   rw [List.find?_cons]
   have : (Value.str y t).isStr x = false := by
    cases z : (Value.str y t).isStr x with
    | false => rfl
    | true => exact absurd (isStr_iff.mp z) (sEq_false q)
   simp only [this]
   have z : DictEntry.refKey ⟨PyData.keyHash P y, .str y t, v⟩ = false := rfl
   rw [List.any_cons, z, Bool.false_or]
   exact a
theorem EntR.set {P : Params} {B : Heap} {ads : Wd} {x : Str} {t : Tok} {sv : SV} {v : Value} (d : Den B ads sv v) : ∀ {es : List DictEntry} {fs : List (Str × SV)}, EntR P B ads es fs →
  EntR P B ads (putL x (PyData.keyHash P x) (.str x t) v es) (put x sv fs)
 | _, _, .nil => .cons d .nil
 | _, _, .cons (x := y) (t := u) (v := w) (es := es) d' r => by
  unfold putL put
  cases q : Fast.sEq x y with
  | true =>
   have : (Value.str y u).isStr x = true := isStr_iff.mpr (sEq_true q)
   simp only [this, if_true]
   exact .cons d r
  | false =>
   have : (Value.str y u).isStr x = false := by
    cases z : (Value.str y u).isStr x with
    | false => rfl
    | true => exact absurd (isStr_iff.mp z) (sEq_false q)
   simp only [this, Bool.false_eq_true, if_false]
   exact .cons d' (r.set d)
theorem EntR.some {P : Params} {B : Heap} {ads : Wd} {x : Str} {es : List DictEntry} {fs : List (Str × SV)} (h : EntR P B ads es fs) : (getL x es).isSome = true := by
 cases q : lk x fs with
 | none => rw [h.miss q]; rfl
 | some sv => obtain ⟨v, e, _⟩ := h.get q; rw [e]; rfl
theorem EntR.length {P : Params} {B : Heap} {ads : Wd} {es : List DictEntry} {fs : List (Str × SV)} (h : EntR P B ads es fs) : es.length = fs.length := by
 induction h with
 | nil => rfl
 | cons _ _ ih => simp [ih]
inductive DenL (B : Heap) (ads : Wd) : List SV → List Value → Prop
 | nil : DenL B ads [] []
 | cons {x : SV} {v : Value} {xs : List SV} {vs : List Value} : Den B ads x v → DenL B ads xs vs → DenL B ads (x :: xs) (v :: vs)
theorem DenL.one {B : Heap} {G : Wd} {x : SV} {vs : List Value} (h : DenL B G [x] vs) : ∃ v, vs = [v] ∧ Den B G x v := by
 cases h with
 | cons d r => cases r; exact ⟨_, rfl, d⟩
theorem DenL.two {B : Heap} {G : Wd} {x y : SV} {vs : List Value} (h : DenL B G [x, y] vs) : ∃ v u, vs = [v, u] ∧ Den B G x v ∧ Den B G y u := by
 cases h with
 | cons d r =>
  obtain ⟨u, rfl, e⟩ := r.one
  exact ⟨_, _, rfl, d, e⟩
theorem DenL.mono {B : Heap} {ads more : Wd} {xs : List SV} {vs : List Value} (h : DenL B ads xs vs) : DenL B (ads ++ more) xs vs := by
 induction h with
 | nil => exact .nil
 | cons d _ ih => exact .cons d.mono ih
theorem DenL.length {B : Heap} {ads : Wd} {xs : List SV} {vs : List Value} (h : DenL B ads xs vs) : xs.length = vs.length := by
 induction h with
 | nil => rfl
 | cons _ _ ih => simp [ih]
theorem DenL.append {B : Heap} {ads : Wd} {xs ys : List SV} {vs us : List Value} (h : DenL B ads xs vs) (h' : DenL B ads ys us) : DenL B ads (xs ++ ys) (vs ++ us) := by
 induction h with
 | nil => exact h'
 | cons d _ ih => exact .cons d ih
theorem DenL.get {B : Heap} {ads : Wd} {x : SV} : ∀ {xs : List SV} {vs : List Value} {i : Nat}, DenL B ads xs vs → xs[i]? = some x → ∃ v, vs[i]? = some v ∧ Den B ads x v
 | _, _, _, .nil, h => by simp at h
 | _, _, 0, .cons d _, h => by
  simp only [List.getElem?_cons_zero, Option.some.injEq] at h
  subst h
  exact ⟨_, rfl, d⟩
 | _, _, i + 1, .cons _ r, h => r.get (i := i) (by simpa using h)
theorem den_rd {B : Heap} {W : Wd} {v : Value} {d : PyData} (f : Fits d) (r : Rd B W.fz v d) : Den B W (svOf d) v := by
 cases f with
 | none => cases r; rfl
 | bool b => cases r; rfl
 | int i => cases r; exact ⟨_, rfl⟩
 | str l => cases r; exact ⟨⟨_, rfl⟩, l⟩
 | list a b =>
  obtain ⟨x, e⟩ : ∃ x, v = .ref x := by cases r; exact ⟨_, rfl⟩
  exact ⟨⟨x, e⟩, .list a b, r⟩
 | tuple a b =>
  obtain ⟨x, e⟩ : ∃ x, v = .ref x := by cases r; exact ⟨_, rfl⟩
  exact ⟨⟨x, e⟩, .tuple a b, r⟩
 | dict a b c => cases r
theorem denL_rd {B : Heap} {W : Wd} : ∀ {vs : List Value} {ds : List PyData}, (∀ d ∈ ds, Fits d) → RdL B W.fz vs ds → DenL B W (ds.map svOf) vs := by
 intro vs
 induction vs with
 | nil => intro ds _ r; cases r; exact .nil
 | cons v vs ih => intro ds f r; cases r with | cons r rs => exact .cons (den_rd (f _ (.head _)) r) (ih (fun d hd => f d (.tail _ hd)) rs)
noncomputable abbrev listO (vs : List Value) (n : Nat) : Obj := { cls := .type "list", data := .seq vs.toArray n }
noncomputable abbrev tupO (vs : List Value) (n : Nat) : Obj := { cls := .type "tuple", data := .seq vs.toArray n }
noncomputable def ItObj (b : Bool) (o : Obj) (v : Value) (j : Nat) : Prop := match v with
 | .ref l => o.cls = .type (if b then "list_iterator" else "tuple_iterator") ∧ o.data = .fields #[.ref l, .int j 0]
 | .str x t => o.cls = .type (strIterType x) ∧ o.data = .fields #[.str x t, .int j 0]
 | _ => False
noncomputable abbrev rngItO (n j : Nat) : Obj := { cls := .type "range_iterator", dict := none, data := .fields #[rawInt j, rawInt ((n : Int) - j), rawInt 1], slots := #[] }
noncomputable abbrev rngO (n : Nat) (t u v : Tok) : Obj := { cls := .type "range", dict := none, data := .fields #[.int 0 t, .int n u, .int 1 v], slots := #[] }
noncomputable def DicO (P : Params) (o : Obj) (kvs : List (Str × Value)) : Prop := ∃ (prog : Program) (w : World), w.params = P ∧ o.IsDictOf (strKind prog w) kvs
inductive KvR (B : Heap) (G : Wd) : List (Str × SV) → List (Str × Value) → Prop
 | nil : KvR B G [] []
 | cons {x : Str} {sv : SV} {v : Value} {fs : List (Str × SV)} {kvs : List (Str × Value)} : Den B G sv v → KvR B G fs kvs → KvR B G ((x, sv) :: fs) ((x, v) :: kvs)
theorem KvR.mono {B : Heap} {G more : Wd} {fs : List (Str × SV)} {kvs : List (Str × Value)} (h : KvR B G fs kvs) : KvR B (G ++ more) fs kvs := by
 induction h with
 | nil => exact .nil
 | cons d _ ih => exact .cons d.mono ih
theorem KvR.names {B : Heap} {G : Wd} {fs : List (Str × SV)} {kvs : List (Str × Value)} (h : KvR B G fs kvs) : kvs.map (·.1) = fs.map (·.1) := by
 induction h with
 | nil => rfl
 | cons d _ ih => simp [ih]
theorem KvR.length {B : Heap} {G : Wd} {fs : List (Str × SV)} {kvs : List (Str × Value)} (h : KvR B G fs kvs) : kvs.length = fs.length := by
 have := congrArg List.length h.names; simpa using this
noncomputable abbrev tabO (ps : Array Value) : Obj := { cls := .none, data := .fields ps }
inductive One (P : Params) (B : Heap) (G : Wd) : SO → Addr → Addr → List (Addr × Obj) → Prop
 | inst {a d C : Addr} {es : List DictEntry} {n : Nat} {fs : List (Str × SV)} : EntR P B G es fs → One P B G (.inst C fs) a d [(a, instObj C d), (d, dictOf es n)]
 | raw {a d : Addr} {o : Obj} : One P B G (.raw o) a d [(a, o)]
 | list {a d : Addr} {xs : List SV} {vs : List Value} {n : Nat} : DenL B G xs vs → One P B G (.list xs) a d [(a, listO vs n)]
 | tup {a d : Addr} {xs : List SV} {vs : List Value} {n : Nat} : DenL B G xs vs → One P B G (.tup xs) a d [(a, tupO vs n)]
 | cell {a d : Addr} {o : Obj} {v : SV} {x : Value} : o.data = .cell (some x) → Den B G v x → One P B G (.cell (some v)) a d [(a, o)]
 | cell0 {a d : Addr} {o : Obj} : o.data = .cell none → One P B G (.cell none) a d [(a, o)]
 | dic {a d : Addr} {o : Obj} {kvs : List (Str × Value)} {fs : List (Str × SV)} : DicO P o kvs → KvR B G fs kvs → One P B G (.dic fs) a d [(a, o)]
 | it {a d : Addr} {o : Obj} {v : Value} {b : Bool} {src : SV} {j : Nat} : ItObj b o v j → Den B G src v → One P B G (.it b src j) a d [(a, o)]
 | itr {a d : Addr} {n j : Nat} : One P B G (.itr n j) a d [(a, rngItO n j)]
 | rng {a d : Addr} {n : Nat} {t u v : Tok} : n ≤ sizeLine → One P B G (.rng n) a d [(a, rngO n t u v)]
 | gone {a d : Addr} : One P B G .gone a d []
 | tab {a d : Addr} {ps : Array Value} : TriplesOk ps.toList → One P B G (.tab a) a d [(a, tabO ps)]
theorem One.mono {P : Params} {B : Heap} {G more : Wd} {so : SO} {a d : Addr} {ps : List (Addr × Obj)} (h : One P B G so a d ps) : One P B (G ++ more) so a d ps := by
 cases h with
 | inst e => exact .inst e.mono
 | raw => exact .raw
 | list e => exact .list e.mono
 | tup e => exact .tup e.mono
 | cell e f => exact .cell e f.mono
 | cell0 e => exact .cell0 e
 | dic e f => exact .dic e f.mono
 | it e f => exact .it e f.mono
 | itr => exact .itr
 | rng e => exact .rng e
 | gone => exact .gone
 | tab e => exact .tab e
noncomputable def OneX (P : Params) (B : Heap) (G : Wd) : SO → Addr → Addr → List (Addr × Obj) → Prop
 | .inst C fs, a, d, ps => ∃ (es : List DictEntry) (n : Nat), EntR P B G es fs ∧ ps = [(a, instObj C d), (d, dictOf es n)]
 | .raw o, a, _, ps => ps = [(a, o)]
 | .list xs, a, _, ps => ∃ (vs : List Value) (n : Nat), DenL B G xs vs ∧ ps = [(a, listO vs n)]
 | .tup xs, a, _, ps => ∃ (vs : List Value) (n : Nat), DenL B G xs vs ∧ ps = [(a, tupO vs n)]
 | .cell o, a, _, ps => ∃ (p : Obj), ps = [(a, p)] ∧ match o with
  | some v => ∃ (x : Value), p.data = .cell (some x) ∧ Den B G v x
  | none => p.data = .cell none
 | .dic fs, a, _, ps => ∃ (o : Obj) (kvs : List (Str × Value)), DicO P o kvs ∧ KvR B G fs kvs ∧ ps = [(a, o)]
 | .it b src j, a, _, ps => ∃ (o : Obj) (v : Value), ItObj b o v j ∧ Den B G src v ∧ ps = [(a, o)]
 | .itr n j, a, _, ps => ps = [(a, rngItO n j)]
 | .rng n, a, _, ps => ∃ (t u v : Tok), n ≤ sizeLine ∧ ps = [(a, rngO n t u v)]
 | .gone, _, _, ps => ps = []
 | .tab a, b, _, ps => a = b ∧ ∃ (vs : Array Value), TriplesOk vs.toList ∧ ps = [(a, tabO vs)]
theorem One.inv {P : Params} {B : Heap} {G : Wd} {so : SO} {a d : Addr} {ps : List (Addr × Obj)} (h : One P B G so a d ps) : OneX P B G so a d ps := by
 cases h with
 | inst e => exact ⟨_, _, e, rfl⟩
 | raw => exact rfl
 | list e => exact ⟨_, _, e, rfl⟩
 | tup e => exact ⟨_, _, e, rfl⟩
 | cell e f => exact ⟨_, rfl, _, e, f⟩
 | cell0 e => exact ⟨_, rfl, e⟩
 | dic e f => exact ⟨_, _, e, f, rfl⟩
 | it e f => exact ⟨_, _, e, f, rfl⟩
 | itr => exact rfl
 | rng e => exact ⟨_, _, _, e, rfl⟩
 | gone => exact rfl
 | tab e => exact ⟨rfl, _, e, rfl⟩
inductive LedR (P : Params) (B : Heap) (G : Wd) : List (Addr × Addr) → List SO → List (Addr × Obj) → Prop
 | nil : LedR P B G [] [] []
 | cons {a d : Addr} {so : SO} {ps : List (Addr × Obj)} {ads : List (Addr × Addr)} {led : List SO} {news : List (Addr × Obj)} : One P B G so a d ps → LedR P B G ads led news → LedR P B G ((a, d) :: ads) (so :: led) (ps ++ news)
theorem LedR.mono {P : Params} {B : Heap} {G more : Wd} {ads : List (Addr × Addr)} {led : List SO} {news : List (Addr × Obj)} (h : LedR P B G ads led news) : LedR P B (G ++ more) ads led news := by
 induction h with
 | nil => exact .nil
 | cons e _ ih => exact .cons e.mono ih
theorem LedR.append {P : Params} {B : Heap} {G : Wd} {ads ads' : List (Addr × Addr)} {led led' : List SO} {news news' : List (Addr × Obj)} (h : LedR P B G ads led news) (h' : LedR P B G ads' led' news') : LedR P B G (ads ++ ads') (led ++ led') (news ++ news') := by
 induction h with
 | nil => exact h'
 | cons e _ ih => rw [List.append_assoc]; exact .cons e ih
theorem LedR.length {P : Params} {B : Heap} {G : Wd} {ads : List (Addr × Addr)} {led : List SO} {news : List (Addr × Obj)} (h : LedR P B G ads led news) : led.length = ads.length := by
 induction h with
 | nil => rfl
 | cons _ _ ih => simp [ih]
theorem LedR.at {P : Params} {B : Heap} {G : Wd} {so : SO} : ∀ {ads : List (Addr × Addr)} {led : List SO} {news : List (Addr × Obj)} {i : Nat}, LedR P B G ads led news → led[i]? = some so →
  ∃ pre ps post a d, news = pre ++ ps ++ post ∧ ads[i]? = some (a, d) ∧ One P B G so a d ps ∧ ∀ so' ps', One P B G so' a d ps' → LedR P B G ads (led.set i so') (pre ++ ps' ++ post)
 | _, _, _, _, .nil, h => by simp at h
 | _, _, _, 0, .cons (a := a) (d := d) (ps := ps) (news := news) e r, h => by
  simp only [List.getElem?_cons_zero, Option.some.injEq] at h
  subst h
  exact ⟨[], ps, news, a, d, rfl, rfl, e, fun so' ps' e' => .cons e' r⟩
 | _, _, _, i + 1, .cons (a := a) (d := d) (ps := qs) (news := news) e r, h => by
  obtain ⟨pre, ps, post, a', d', h1, h2, h3, h4⟩ := r.at (i := i) (by simpa using h)
  exact ⟨qs ++ pre, ps, post, a', d', by rw [h1]; simp, by simpa using h2, h3, fun x y z => by
   have := LedR.cons e (h4 x y z)
   simpa using this⟩
theorem lk_mem {α : Type} {x : Str} {a : α} : ∀ {l : List (Str × α)}, lk x l = some a → (x, a) ∈ l
 | [], h => by cases h
 | (y, b) :: r, h => by
  unfold lk at h
  cases q : Fast.sEq x y with
  | true => rw [q] at h; cases h; rw [sEq_true q]; exact .head _
  | false => rw [q] at h; exact .tail _ (lk_mem h)
noncomputable def kids : Expr → List Expr
 | .BoolOp _ vs _ => vs
 | .Compare l _ rs _ => l :: rs
 | .Call f as _ _ => f :: as
 | .Attribute o _ _ => [o]
 | .BinOp l _ r _ => [l, r]
 | .GeneratorExp e gs _ _ => match gs with
  | g :: _ => [e, g.target, g.iter]
  | [] => [e]
 | _ => []
noncomputable def kid (e : Expr) : List Nat → Expr
 | [] => e
 | n :: r => kid (((kids e)[n]?).getD default) r
noncomputable def kp (e : Expr) (l : List Nat) : Pos := (kid e l).pos
noncomputable def kK (e : Expr) (l : List Nat) : Nat := match kid e l with
 | .Constant _ k _ => k
 | _ => 0
noncomputable def sEx : Stmt → Expr
 | .If t _ _ _ => t
 | .Return v _ => v.getD default
 | _ => default
noncomputable def sBo : Stmt → List Stmt
 | .If _ b _ _ => b
 | _ => []
noncomputable def kw0 : Expr → Keyword
 | .Call _ _ (k :: _) _ => k
 | _ => ⟨none, default, default⟩
noncomputable def geSc : Expr → Scope
 | .GeneratorExp _ _ sc _ => sc
 | _ => default
structure FnE where
 fa : Addr
 na : Nat
 names : List Str
 more : List (Str × Value)
 body : List Stmt
 scope : Scope
 qual : Str
 cd : Value
 cells : List Str := []
structure ClsE where
 C : Addr
 attrs : List Str
 meths : List (Str × Addr)
 props : List (Str × Addr × Addr)
structure SpE where
 fa : Addr
 na : Nat
 d : Nat
 sp : List SV → St → Kt → Prop
structure HkE (α : Type) where
 line : Nat
 col : Nat
 d : Nat
 x : α
 sp : List (Str × NameKind) → St → Kt → Prop
structure Cf where
 K : Frag
 globs : List (Str × Value)
 fns : List FnE
 cls : List ClsE
 sps : List SpE := []
 hxs : List (HkE Expr) := []
 hss : List (HkE Stmt) := []
 known : Bool := true
structure Fm where
 B : Heap
 h₀ : Heap
 L : Addr
 env : Env
 A : Around
 stk : List Env
 lows : List (Addr × Obj)
 quiet : Bool
noncomputable abbrev Fm.sc (F : Fm) : Scope := F.env.scope
structure GlobOk (h : Heap) : Prop where
 lim : h.NoLimit
 ns : ∃ mg mb, h.Ns mainGlobals mg ∧ h.Ns builtinsNs mb ∧ ∀ x : Str, x ≠ "__name__" → mb x = bootBuiltins x
 stat : ∃ o, h.get? cStatics = some o ∧ lookIn "thirdparty.any" o = some none
 sm : ∃ o, h.get? sysModules = some o
theorem GlobOk.keeps {h h' : Heap} (G : GlobOk h) (k : ∀ b o, h.get? b = some o → h'.get? b = some o) : GlobOk h' :=
 ⟨G.lim.keeps k, let ⟨mg, mb, a, b, c⟩ := G.ns; ⟨mg, mb, a.keeps k, b.keeps k, c⟩, let ⟨o, a, b⟩ := G.stat; ⟨o, k _ _ a, b⟩, let ⟨o, a⟩ := G.sm; ⟨o, k _ _ a⟩⟩
inductive Ups : List (Addr × Obj) → List (Addr × Obj) → Prop
 | nil : Ups [] []
 | cons {a : Addr} {o : Obj} {sl : Array (Option Value)} {l l' : List (Addr × Obj)} : Ups l l' → Ups ((a, o) :: l) ((a, { o with slots := sl }) :: l')
theorem Ups.refl : ∀ l : List (Addr × Obj), Ups l l
 | [] => .nil
 | (a, o) :: r => .cons (o := o) (sl := o.slots) (Ups.refl r)
theorem Ups.trans : ∀ {a b c : List (Addr × Obj)}, Ups a b → Ups b c → Ups a c := by
 intro a b c x
 induction x generalizing c with
 | nil => exact fun y => y
 | cons _ ih => intro y; cases y with | cons y => exact .cons (ih y)
theorem Ups.keys : ∀ {a b : List (Addr × Obj)}, Ups a b → b.map (·.1) = a.map (·.1) := by
 intro a b x
 induction x with
 | nil => rfl
 | @cons a _ _ _ _ _ ih => exact congrArg (List.cons a) ih
theorem Ups.back : ∀ {a b : List (Addr × Obj)} {q : Addr × Obj}, Ups a b → q ∈ b → ∃ o, (q.1, o) ∈ a ∧ q.2 = { o with slots := q.2.slots }
 | _, _, _, .nil, h => by cases h
 | _, _, _, .cons x, h => by
  rcases List.mem_cons.mp h with rfl | h
  ·exact ⟨_, .head _, rfl⟩
  ·obtain ⟨o, a, e⟩ := x.back h; exact ⟨o, .tail _ a, e⟩
structure LowOk (stk : List Env) (L : Addr) (lows : List (Addr × Obj)) : Prop where
 env : ∀ env ∈ stk, env.scope.kind ≠ .module ∧ ∃ L', env.frame = some L' ∧ (L' = L ∨ L' ∈ lows.map (·.1))
 dat : ∀ p ∈ lows, ∀ vs, p.2.data ≠ .fields vs
theorem LowOk.ups {stk : List Env} {L : Addr} {lows lw : List (Addr × Obj)} (l : LowOk stk L lows) (u : Ups lows lw) : LowOk stk L lw := by
 refine ⟨fun env he => ?_, fun p hp vs q => ?_⟩
 ·obtain ⟨a, L, b, c⟩ := l.env env he
  exact ⟨a, L, b, by rw [u.keys]; exact c⟩
 ·obtain ⟨o, a, e⟩ := u.back hp
  refine l.dat _ a vs ?_
  rw [e] at q; exact q
theorem LowOk.push {stk : List Env} {lows : List (Addr × Obj)} {env : Env} {L L₂ : Addr} {o : Obj} (l : LowOk stk L lows) (h1 : env.scope.kind ≠ .module) (h2 : env.frame = some L₂) (h3 : ∀ vs, o.data ≠ .fields vs) : LowOk (env :: stk) L₂ ((L, o) :: lows) := by
 refine ⟨fun e he => ?_, fun p hp vs => ?_⟩
 ·rcases List.mem_cons.mp he with rfl | he
  ·exact ⟨h1, L₂, h2, .inl rfl⟩
  ·obtain ⟨a, L', b, c⟩ := l.env e he
   refine ⟨a, L', b, .inr ?_⟩
   rcases c with rfl | c
   ·exact .head _
   ·exact .tail _ c
 ·rcases List.mem_cons.mp hp with rfl | hp
  ·exact h3 vs
  ·exact l.dat p hp vs
theorem LowOk.inner {stk : List Env} {lows : List (Addr × Obj)} {L L₂ : Addr} {o : Obj} (l : LowOk stk L lows) (h3 : ∀ vs, o.data ≠ .fields vs) : LowOk stk L₂ ((L, o) :: lows) := by
 refine ⟨fun e he => ?_, fun p hp vs => ?_⟩
 ·obtain ⟨a, L', b, c⟩ := l.env e he
  refine ⟨a, L', b, .inr ?_⟩
  rcases c with rfl | c
  ·exact .head _
  ·exact .tail _ c
 ·rcases List.mem_cons.mp hp with rfl | hp
  ·exact h3 vs
  ·exact l.dat p hp vs
structure FmOk (C : Cf) (F : Fm) : Prop where
 X : C.K.In F.h₀
 G : GlobOk F.h₀
 stay : F.B.StaysIn F.h₀
 kind : F.sc.kind = .function
 hand : F.A.handled = none
 stack : C.known = true → F.A.frames = some F.stk
 loud : C.known = true → F.quiet = false
 low : LowOk F.stk F.L F.lows
 loc : F.env.locals = F.L
 gl : F.env.globals = mainGlobals
 bi : F.env.builtins = builtinsNs
 cel : ∀ x, F.sc.names.lookup x = some .local → F.env.cells.lookup x = none
 cel2 : ∀ x, F.sc.names.lookup x = some .cell → ∃ a, F.env.cells.lookup x = some a
noncomputable def locM (env : Env) (m : Str → Option Value) : Str → Option Value := fun x => match env.cells.lookup x with
 | some a => some (.ref a)
 | none => m x
structure RepX (w : World) (F : Fm) (ads : Wd) (st : St) (h : Heap) (m : Str → Option Value) (news lw : List (Addr × Obj)) : Prop where
 fr : Fr F.h₀ F.L h m
 nw : News F.h₀ F.L h (news ++ (ads.fz ++ lw))
 loc : LocR F.B ads st.loc (locM F.env m)
 led : LedR w.params F.B ads ads.ads st.led news
 nd : ((news ++ (ads.fz ++ lw)).map (·.1)).Nodup
 ups : Ups F.lows lw
noncomputable def Rep (w : World) (F : Fm) (ads : Wd) (st : St) (h : Heap) : Prop := ∃ m news lw, RepX w F ads st h m news lw
structure NxB (q : Bool) (s s' : Shared) : Prop where
 drawn : s'.drawn = s.drawn
 os : s'.os = s.os
 keep : ∀ (i : Nat) (x : GenState), s.gens[i]? = some x → s'.gens[i]? = some x
 done : ∀ (i : Nat) (x : GenState), s'.gens[i]? = some x → s.gens[i]? = some x ∨ x.bare = true
 quiet : q = true → s'.gens = s.gens
noncomputable abbrev Nx (F : Fm) (s s' : Shared) : Prop := NxB F.quiet s s'
theorem Nx.of_gens {q : Bool} {s s' : Shared} (a : s'.gens = s.gens) (b : s'.drawn = s.drawn) (c : s'.os = s.os) : NxB q s s' := ⟨b, c, fun i x e => by rw [a]; exact e, fun i x e => by rw [a] at e; exact .inl e, fun _ => a⟩
theorem Nx.refl {q : Bool} (s : Shared) : NxB q s s := Nx.of_gens rfl rfl rfl
theorem NxB.trans {q : Bool} {a b c : Shared} (x : NxB q a b) (y : NxB q b c) : NxB q a c :=
 ⟨y.drawn.trans x.drawn, y.os.trans x.os, fun i z e => y.keep i z (x.keep i z e), fun i z e => (y.done i z e).elim (fun q => x.done i z q) .inr, fun h => (y.quiet h).trans (x.quiet h)⟩
theorem Nx.mk' {q : Bool} (s : Shared) (h : Heap) (t : Nat) : NxB q s { s with heap := h, toks := t } := Nx.of_gens rfl rfl rfl
theorem nx_toks {q : Bool} (s : Shared) (t : Nat) : NxB q s { s with toks := t } := Nx.of_gens rfl rfl rfl
inductive CR where
 | v (x : Value)
 | b (x : Bool)
 | vs (l : List Value)
 | fl (f : Flow)
noncomputable def DenR (B : Heap) (ads : Wd) : SR → CR → Prop
 | .v x, .v y => Den B ads x y
 | .b x, .b y => x = y
 | .vs l, .vs l' => DenL B ads l l'
 | .next, .fl .next => True
 | .brk, .fl .brk => True
 | .cont, .fl .cont => True
 | .ret x, .fl (.ret y) => Den B ads x y
 | _, _ => False
inductive Tk where
 | ex (e : Expr)
 | tr (e : Expr)
 | st (s : Stmt)
 | sts (l : List Stmt)
 | args (es : List Expr) (pos : Pos)
 | wl (t : Expr) (b : List Stmt)
noncomputable def findFn (fa n : Nat) : List FnE → Option FnE
 | [] => none
 | e :: r => match Nat.beq e.fa fa with
  | true => match Nat.beq e.na n with
   | true => some e
   | false => findFn fa n r
  | false => findFn fa n r
noncomputable def findSp (fa n : Nat) : List SpE → Option SpE
 | [] => none
 | e :: r => match Nat.beq e.fa fa with
  | true => match Nat.beq e.na n with
   | true => some e
   | false => findSp fa n r
  | false => findSp fa n r
noncomputable def findHk {α : Type} (line col : Nat) : List (HkE α) → Option (HkE α)
 | [] => none
 | e :: r => match Nat.beq e.line line with
  | true => match Nat.beq e.col col with
   | true => some e
   | false => findHk line col r
  | false => findHk line col r
noncomputable def findCls (C : Nat) : List ClsE → Option ClsE
 | [] => none
 | e :: r => match Nat.beq e.C C with
  | true => some e
  | false => findCls C r
noncomputable def hasName (x : Str) : List Str → Bool
 | [] => false
 | y :: r => match Fast.sEq x y with
  | true => true
  | false => hasName x r
noncomputable def ifT (c : Bool) (a b : Prop) : Prop := match c with
 | true => a
 | false => b
theorem ifT_sound {c : Bool} {a b : Prop} (h : ifT c a b) : (c = true → a) ∧ (c = false → b) := by
 cases c
 ·exact ⟨(fun e => nomatch e), fun _ => h⟩
 ·exact ⟨fun _ => h, (fun e => nomatch e)⟩
theorem beq_sEq (a b : Str) : (a == b) = Fast.sEq a b := by
 cases h : Fast.sEq a b with
 | true => rw [sEq_true h]; exact beq_self_eq_true b
 | false => exact beq_eq_false_iff_ne.mpr (sEq_false h)
noncomputable def Then (w : World) (F : Fm) (ads : Wd) (s : Shared) (k : Kt) (Q : CR → Shared → Prop) : Prop :=
 ∀ r st' more c s', k r st' → Rep w F (ads ++ more) st' s'.heap → Nx F s s' → DenR F.B (ads ++ more) r c → Q c s'
noncomputable def ThenV (w : World) (F : Fm) (ads : Wd) (s : Shared) (k : SV → St → Prop) (Q : Value → Shared → Prop) : Prop :=
 ∀ r st' more v s', k r st' → Rep w F (ads ++ more) st' s'.heap → Nx F s s' → Den F.B (ads ++ more) r v → Q v s'
section
variable {w : World} {F : Fm} {ads : Wd} {s : Shared}
theorem Then.of {k : Kt} {Q : CR → Shared → Prop} (T : Then w F ads s k Q) {r : SR} {st' : St} {more : Wd} {c : CR} {s' : Shared} (hk : k r st') (R : Rep w F (ads ++ more) st' s'.heap) (x : Nx F s s') (d : DenR F.B (ads ++ more) r c) : Q c s' := T r st' more c s' hk R x d
theorem Then.same {k : Kt} {Q : CR → Shared → Prop} (T : Then w F ads s k Q) {r : SR} {st' : St} {c : CR} {s' : Shared} (hk : k r st') (R : Rep w F ads st' s'.heap) (x : Nx F s s') (d : DenR F.B ads r c) : Q c s' :=
 T r st' .nil c s' hk (by rw [Wd.append_nil]; exact R) x (by rw [Wd.append_nil]; exact d)
theorem Then.later {k : Kt} {Q : CR → Shared → Prop} {more : Wd} {s₁ : Shared} (T : Then w F ads s k Q) (x : Nx F s s₁) : Then w F (ads ++ more) s₁ k Q := fun r st' more' c s' hk R x' d =>
 T r st' (more ++ more') c s' hk (by rw [← Wd.append_assoc]; exact R) (x.trans x') (by rw [← Wd.append_assoc]; exact d)
theorem Then.v {k : Kt} {Q : CR → Shared → Prop} (T : Then w F ads s k Q) : ThenV w F ads s (fun z st => k (.v z) st) (fun v s' => Q (.v v) s') := fun r st' more v s' hk R x d => T (.v r) st' more (.v v) s' hk R x d
theorem ThenV.same {k : SV → St → Prop} {Q : Value → Shared → Prop} (T : ThenV w F ads s k Q) {r : SV} {st' : St} {v : Value} {s' : Shared} (hk : k r st') (R : Rep w F ads st' s'.heap) (x : Nx F s s') (d : Den F.B ads r v) : Q v s' :=
 T r st' .nil v s' hk (by rw [Wd.append_nil]; exact R) x (by rw [Wd.append_nil]; exact d)
end
section rep
variable {w : World} {C : Cf} {F : Fm} {ads : Wd} {s : Shared}
theorem rep_local {st : St} {x : Str} {v : SV} (R : Rep w F ads st s.heap) (e : lk x st.loc = some v) : ∃ m news lw u, RepX w F ads st s.heap m news lw ∧ locM F.env m x = some u ∧ Den F.B ads v u := by
 obtain ⟨m, news, lw, X⟩ := R
 obtain ⟨u, a, b⟩ := X.loc x v e
 exact ⟨m, news, lw, u, X, a, b⟩
theorem rep_store {st : St} {x : Str} {v : SV} {u : Value} {E : Value → Shared → Prop} {Q : Unit → Shared → Prop} (ok : FmOk C F) (R : Rep w F ads st s.heap) (d : Den F.B ads v u) (hl : F.sc.names.lookup x = some .local)
  (h : ∀ h' t, Rep w F ads { st with loc := put x v st.loc } h' → Q () { s with heap := h', toks := t }) : wpAny (model prog w) F.A (storeName F.env x u) Q E s := by
 obtain ⟨m, news, lw, X⟩ := R
 have ns : s.heap.Ns F.env.locals m := by rw [ok.loc]; exact X.fr.ns
 refine wpAny_storeName_local hl ns (fun h' hn hs => ?_) (by rw [show F.env.scope.kind = .function from ok.kind]; rfl)
 rw [ok.loc] at hn hs
 refine h h' _ ⟨_, news, lw, X.fr.set hn hs, X.nw.set hs, ?_, X.led, X.nd, X.ups⟩
 have e : locM F.env (fun y => if y = x then some u else m y) = fun y => if y = x then some u else locM F.env m y := by
  funext y
  unfold locM
  by_cases q : y = x
  ·subst q; rw [ok.cel y hl]
  ·simp only [if_neg q]
 rw [e]
 exact X.loc.set d
theorem loc_plain {C : Cf} (ok : FmOk C F) {x : Str} {m : Str → Option Value} (hl : F.sc.names.lookup x = some .local) : locM F.env m x = m x := by
 unfold locM; rw [ok.cel x hl]
theorem ldE {x : Str} {pos : Pos} {v : Value} {E : Value → Shared → Prop} {Q : Value → Shared → Prop} {m : Str → Option Value} (ok : FmOk C F) (X : Fr F.h₀ F.L s.heap m) (hl : F.sc.names.lookup x = some .local) (hv : locM F.env m x = some v) (h : Q v s)
  (hd : (x == ("__debug__" : Str)) = false) : wpAny (model prog w) F.A (eval (.Name x pos) F.env) Q E s :=
 wpAny_Name (wpAny_loadName_local ok.kind hl (by rw [ok.loc]; exact X.ns) ((loc_plain ok hl).symm.trans hv) h) hd
theorem ldnE {x : Str} {v : Value} {E : Value → Shared → Prop} {Q : Value → Shared → Prop} {m : Str → Option Value} (ok : FmOk C F) (X : Fr F.h₀ F.L s.heap m) (hl : F.sc.names.lookup x = some .local) (hv : locM F.env m x = some v) (h : Q v s) : wpAny (model prog w) F.A (loadName F.env x) Q E s :=
 wpAny_loadName_local ok.kind hl (by rw [ok.loc]; exact X.ns) ((loc_plain ok hl).symm.trans hv) h
theorem ldG {x : Str} {pos : Pos} {v : Value} {E : Value → Shared → Prop} {Q : Value → Shared → Prop} {m mg : Str → Option Value} (ok : FmOk C F) (X : Fr F.h₀ F.L s.heap m) (hg : F.h₀.Ns mainGlobals mg) (hb : mg x = some v) (h : Q v s)
  (hx : F.sc.names.lookup x = some .globalImplicit) (hd : (x == ("__debug__" : Str)) = false) : wpAny (model prog w) F.A (eval (.Name x pos) F.env) Q E s :=
 Calls.Name_function_global ok.kind hx (Calls.loadGlobal_global (env := F.env) (by rw [ok.gl]; exact hg.keeps X.keep) hb h) hd
theorem ldB {x : Str} {pos : Pos} {v : Value} {E : Value → Shared → Prop} {Q : Value → Shared → Prop} {m mg mb : Str → Option Value} (ok : FmOk C F) (X : Fr F.h₀ F.L s.heap m) (hg : F.h₀.Ns mainGlobals mg) (hmiss : mg x = none) (hb : F.h₀.Ns builtinsNs mb) (hv : mb x = some v) (h : Q v s)
  (hx : F.sc.names.lookup x = some .globalImplicit) (hd : (x == ("__debug__" : Str)) = false) : wpAny (model prog w) F.A (eval (.Name x pos) F.env) Q E s :=
 Calls.Name_function_global ok.kind hx (Calls.loadGlobal_builtin (env := F.env) (by rw [ok.gl]; exact hg.keeps X.keep) hmiss (by rw [ok.bi]; exact hb.keeps X.keep) hv h) hd
theorem rep_push {st : St} {h : Heap} {o : Obj} {so : SO} (hf : o.isFreed = false) (R : Rep w F ads st h) (one : One w.params F.B (ads ++ .one h.objs.size 0) so h.objs.size 0 [(h.objs.size, o)]) :
  Rep w F (ads ++ .one h.objs.size 0) { st with led := st.led ++ [so] } (h.push o) := by
 obtain ⟨m, news, lw, X⟩ := R
 have N' := X.nw.push X.fr o hf
 have efz : (ads ++ Wd.one h.objs.size 0).fz = ads.fz := by rw [Wd.fz_append]; exact List.append_nil _
 refine ⟨m, news ++ [(h.objs.size, o)], lw, X.fr.push o, fun p hp => N' p ?_, X.loc.mono, ?_, ?_, X.ups⟩
 ·rw [efz] at hp
  rcases List.mem_append.mp hp with q | q
  ·rcases List.mem_append.mp q with q | q
   ·exact .tail _ (List.mem_append_left _ q)
   ·rw [List.mem_singleton.mp q]; exact .head _
  ·exact .tail _ (List.mem_append_right _ q)
 ·have := X.led.mono (more := .one h.objs.size 0)
  have z := this.append (LedR.cons one LedR.nil)
  rw [List.append_nil] at z
  exact z
 ·rw [efz]
  have pm : (news ++ [(h.objs.size, o)] ++ (ads.fz ++ lw)).Perm ((h.objs.size, o) :: (news ++ (ads.fz ++ lw))) := by
   rw [List.append_assoc, List.singleton_append]
   exact List.perm_middle
  refine (pm.map (·.1)).nodup_iff.mpr ?_
  rw [List.map_cons, List.nodup_cons]
  refine ⟨fun ha => ?_, X.nd⟩
  obtain ⟨p, hp, e⟩ := List.mem_map.mp ha
  exact Nat.ne_of_lt (Heap.lt_size (X.nw p hp).1) e
theorem rep_junk {st : St} {h : Heap} (o : Obj) (R : Rep w F ads st h) : Rep w F ads st (h.push o) := by
 obtain ⟨m, news, lw, X⟩ := R
 exact ⟨m, news, lw, X.fr.push o, fun p hp => ⟨Heap.get?_push_of_some _ (X.nw p hp).1, (X.nw p hp).2⟩, X.loc, X.led, X.nd, X.ups⟩
theorem rep_look {st : St} {h : Heap} (ok : FmOk C F) (R : Rep w F ads st h) : Look F.B ads.fz h := by
 obtain ⟨m, news, lw, X⟩ := R
 exact ⟨fun b o e => X.fr.keep b o (ok.stay b o e), fun p hp => (X.nw p (List.mem_append_right _ (List.mem_append_left _ hp))).1⟩
theorem rep_same {F : Fm} {ads : Wd} {st : St} {h h' : Heap} (R : Rep w F ads st h) (e : ∀ b o, h.get? b = some o → h'.get? b = some o) : Rep w F ads st h' := by
 obtain ⟨m, news, lw, X⟩ := R
 exact ⟨m, news, lw, ⟨X.fr.ns.at' fun o q => e _ o q, fun b o q => e _ _ (X.fr.keep b o q), X.fr.above⟩, fun p hp => ⟨e _ _ (X.nw p hp).1, (X.nw p hp).2⟩, X.loc, X.led, X.nd, X.ups⟩
section
variable {st : St}
theorem rep_set1 {h h' : Heap} {i : Nat} {so' : SO} {a : Addr} {o o' : Obj} {m : Str → Option Value} {news lw pre post : List (Addr × Obj)} (X : RepX w F ads st h m news lw)
  (e : news = pre ++ [(a, o)] ++ post) (hl : LedR w.params F.B ads ads.ads (st.led.set i so') (pre ++ [(a, o')] ++ post)) (ho : h'.get? a = some o') (hs : ∀ b, b ≠ a → ∀ o, h.get? b = some o → h'.get? b = some o) :
  Rep w F ads { st with led := st.led.set i so' } h' := by
 subst e
 have ha := X.nw (a, o) (by simp)
 have nd := X.nd
 have nd1 : ∀ p ∈ pre ++ post ++ (ads.fz ++ lw), p.1 ≠ a := by
  have pm : (pre ++ [(a, o)] ++ post ++ (ads.fz ++ lw)).Perm ((a, o) :: (pre ++ post ++ (ads.fz ++ lw))) := by
   rw [List.append_assoc, List.append_assoc, List.append_assoc]
   exact List.perm_middle
  have z := (pm.map (·.1)).nodup_iff.mp nd
  rw [List.map_cons, List.nodup_cons] at z
  intro p hp q
  exact z.1 (List.mem_map.mpr ⟨p, hp, q⟩)
 refine ⟨m, pre ++ [(a, o')] ++ post, lw, ⟨X.fr.ns.at' fun o q => hs _ (fun z => ha.2.1 z.symm) _ q, fun b o q => hs b (fun z => ?_) o (X.fr.keep b o q), X.fr.above⟩, fun p hp => ?_, X.loc, hl, ?_, X.ups⟩
 ·rw [z, ha.2.2] at q; cases q
 ·have hp' : p = (a, o') ∨ p ∈ pre ++ post ++ (ads.fz ++ lw) := by
   simp only [List.mem_append, List.mem_singleton] at hp ⊢
   rcases hp with ((q | q) | q) | q
   ·exact .inr (.inl (.inl q))
   ·exact .inl q
   ·exact .inr (.inl (.inr q))
   ·exact .inr (.inr q)
  rcases hp' with rfl | q
  ·exact ⟨ho, ha.2⟩
  ·have z := X.nw p (by
    simp only [List.mem_append, List.mem_singleton] at q ⊢
    rcases q with (q | q) | q
    ·exact .inl (.inl (.inl q))
    ·exact .inl (.inr q)
    ·exact .inr q)
   exact ⟨hs _ (nd1 p q) _ z.1, z.2⟩
 ·have : (pre ++ [(a, o')] ++ post ++ (ads.fz ++ lw)).map (·.1) = (pre ++ [(a, o)] ++ post ++ (ads.fz ++ lw)).map (·.1) := by simp
  rw [this]; exact nd
theorem rep_at {h : Heap} {i : Nat} {so : SO} (R : Rep w F ads st h) (hi : st.led[i]? = some so) : ∃ m news lw pre ps post a d, RepX w F ads st h m news lw ∧ news = pre ++ ps ++ post ∧ ads.ads[i]? = some (a, d) ∧ One w.params F.B ads so a d ps ∧
  ∀ so' ps', One w.params F.B ads so' a d ps' → LedR w.params F.B ads ads.ads (st.led.set i so') (pre ++ ps' ++ post) := by
 obtain ⟨m, news, lw, X⟩ := R
 obtain ⟨pre, ps, post, a, d, h1, h2, h3, h4⟩ := X.led.at hi
 exact ⟨m, news, lw, pre, ps, post, a, d, X, h1, h2, h3, h4⟩
theorem rep_drop1 {h h' : Heap} {i : Nat} {a : Addr} {o : Obj} {m : Str → Option Value} {news lw pre post : List (Addr × Obj)} (X : RepX w F ads st h m news lw)
  (e : news = pre ++ [(a, o)] ++ post) (hl : LedR w.params F.B ads ads.ads (st.led.set i .gone) (pre ++ [] ++ post)) (hs : ∀ b, b ≠ a → ∀ o, h.get? b = some o → h'.get? b = some o) :
  Rep w F ads { st with led := st.led.set i .gone } h' := by
 subst e
 have ha := X.nw (a, o) (by simp)
 have nd := X.nd
 have pm : (pre ++ [(a, o)] ++ post ++ (ads.fz ++ lw)).Perm ((a, o) :: (pre ++ [] ++ post ++ (ads.fz ++ lw))) := by
  simp only [List.append_assoc, List.append_nil, List.nil_append]
  exact List.perm_middle
 have z := (pm.map (·.1)).nodup_iff.mp nd
 rw [List.map_cons, List.nodup_cons] at z
 refine ⟨m, pre ++ [] ++ post, lw, ⟨X.fr.ns.at' fun o q => hs _ (fun z => ha.2.1 z.symm) _ q, fun b o q => hs b (fun z => ?_) o (X.fr.keep b o q), X.fr.above⟩, fun p hp => ?_, X.loc, hl, z.2, X.ups⟩
 ·rw [z, ha.2.2] at q; cases q
 ·have y := X.nw p (pm.mem_iff.mpr (.tail _ hp))
  exact ⟨hs _ (fun q => z.1 (List.mem_map.mpr ⟨p, hp, q⟩)) _ y.1, y.2⟩
theorem cell_addr (ok : FmOk C F) {x : Str} {i : Nat} {m : Str → Option Value} (hk : F.sc.names.lookup x = some .cell) {u : Value} (e : locM F.env m x = some u) (d : Den F.B ads (.obj i) u) : ∃ p, F.env.cells.lookup x = some p.1 ∧ ads.ads[i]? = some p ∧ u = .ref p.1 := by
 obtain ⟨a, ha⟩ := ok.cel2 x hk
 obtain ⟨p, hp, rfl⟩ := d
 unfold locM at e
 rw [ha] at e
 cases e
 exact ⟨p, ha, hp, rfl⟩
theorem rep_cell {x : Str} {i : Nat} {v : SV} {E : Value → Shared → Prop} {Q : Value → Shared → Prop} (ok : FmOk C F) (R : Rep w F ads st s.heap) (hk : F.sc.names.lookup x = some .cell) (e : lk x st.loc = some (.obj i)) (hi : st.led[i]? = some (.cell (some v)))
  (h : ∀ u, Den F.B ads v u → Q u s) : wpAny (model prog w) F.A (loadName F.env x) Q E s := by
 obtain ⟨m, news, lw, pre, ps, post, a, d, X, h1, h2, h3, h4⟩ := rep_at R hi
 obtain ⟨u, e1, e2⟩ := X.loc x _ e
 obtain ⟨p, c1, c2, rfl⟩ := cell_addr ok hk e1 e2
 rw [h2] at c2; cases c2
 obtain ⟨o, rfl, y, hd, dv⟩ := h3.inv
 ·exact wpAny_loadName_cell ok.kind hk c1 ⟨o, (X.nw (a, o) (by rw [h1]; simp)).1, hd⟩ (h y dv)
theorem rep_cell_set {x : Str} {i : Nat} {v : SV} {old : Option SV} {u : Value} {E : Value → Shared → Prop} {Q : Unit → Shared → Prop} (ok : FmOk C F) (R : Rep w F ads st s.heap) (hk : F.sc.names.lookup x = some .cell) (e : lk x st.loc = some (.obj i)) (hi : st.led[i]? = some (.cell old)) (dv : Den F.B ads v u)
  (h : ∀ h', Rep w F ads { st with led := st.led.set i (.cell (some v)) } h' → Q () { s with heap := h' }) : wpAny (model prog w) F.A (storeName F.env x u) Q E s := by
 obtain ⟨m, news, lw, pre, ps, post, a, d, X, h1, h2, h3, h4⟩ := rep_at R hi
 obtain ⟨y, e1, e2⟩ := X.loc x _ e
 obtain ⟨p, c1, c2, rfl⟩ := cell_addr ok hk e1 e2
 rw [h2] at c2; cases c2
 have key : ∀ o ov, ps = [(a, o)] → o.data = .cell ov → wpAny (model prog w) F.A (storeName F.env x u) Q E s := by
  intro o ov eps hd
  rw [eps] at h1
  refine wpAny_storeName_cell ok.kind hk c1 ⟨o, (X.nw (a, o) (by rw [h1]; simp)).1, hd⟩ fun h' hc hs => ?_
  obtain ⟨o', ho', hd'⟩ := hc
  exact h h' (rep_set1 X h1 (h4 _ _ (One.cell hd' dv)) ho' fun b hb o q => (hs.2 b hb).trans q)
 obtain ⟨o, rfl, hd⟩ := h3.inv
 cases old with
 | some _ => obtain ⟨_, hd, _⟩ := hd; exact key _ _ rfl hd
 | none => exact key _ _ rfl hd
end
end rep
noncomputable def nmKind (x : Str) : List (Str × NameKind) → Option NameKind
 | [] => none
 | (y, a) :: r => match Fast.sEq x y with
  | true => some a
  | false => nmKind x r
theorem nmKind_eq (x : Str) : ∀ l : List (Str × NameKind), nmKind x l = l.lookup x
 | [] => rfl
 | (y, a) :: r => by
  unfold nmKind
  rw [List.lookup_cons, beq_sEq, nmKind_eq x r]
  cases Fast.sEq x y <;> rfl
noncomputable abbrev kLoc (o : Option NameKind) : Bool := match o with
 | none => false
 | some k => match k with
  | .local => true
  | _ => false
noncomputable abbrev kCel (o : Option NameKind) : Bool := match o with
 | none => false
 | some k => match k with
  | .cell => true
  | _ => false
noncomputable abbrev kFre (o : Option NameKind) : Bool := match o with
 | none => false
 | some k => match k with
  | .free => true
  | _ => false
theorem and_tr {a b : Bool} (h : (a && b) = true) : a = true ∧ b = true := by
 cases a with
 | false => exact Bool.noConfusion h
 | true => exact ⟨rfl, h⟩
theorem kLoc_eq {x : Str} {l : List (Str × NameKind)} (h : kLoc (nmKind x l) = true) : l.lookup x = some .local := by
 rw [nmKind_eq] at h
 cases q : l.lookup x with
 | none => rw [q] at h; exact Bool.noConfusion h
 | some k => rw [q] at h; cases k <;> first | rfl | exact Bool.noConfusion h
theorem kCel_eq {x : Str} {l : List (Str × NameKind)} (h : kCel (nmKind x l) = true) : l.lookup x = some .cell := by
 rw [nmKind_eq] at h
 cases q : l.lookup x with
 | none => rw [q] at h; exact Bool.noConfusion h
 | some k => rw [q] at h; cases k <;> first | rfl | exact Bool.noConfusion h
theorem kFre_eq {x : Str} {l : List (Str × NameKind)} (h : kFre (nmKind x l) = true) : l.lookup x = some .free := by
 rw [nmKind_eq] at h
 cases q : l.lookup x with
 | none => rw [q] at h; exact Bool.noConfusion h
 | some k => rw [q] at h; cases k <;> first | rfl | exact Bool.noConfusion h
section
variable {w : World} {C : Cf} {F : Fm} {ads : Wd} {s : Shared} {st : St}
theorem rep_L {h : Heap} (R : Rep w F ads st h) : ∃ o, h.get? F.L = some o := by
 obtain ⟨m, news, lw, X⟩ := R
 obtain ⟨oL, es, ep, hL, _⟩ := X.fr.ns
 exact ⟨oL, hL⟩
theorem rep_fzN {h h' : Heap} {a : Addr} {o : Obj} {m : Str → Option Value} {news lw : List (Addr × Obj)} (X : RepX w F ads st h m news lw) (F' : Fr F.h₀ F.L h' m) (N' : News F.h₀ F.L h' ((a, o) :: (news ++ (ads.fz ++ lw)))) (ha : h.objs.size ≤ a) :
  Rep w F (ads ++ (⟨[], [(a, o)]⟩ : Wd)) st h' := by
 have efz : (ads ++ (⟨[], [(a, o)]⟩ : Wd)).fz = ads.fz ++ [(a, o)] := rfl
 have eads : (ads ++ (⟨[], [(a, o)]⟩ : Wd)).ads = ads.ads := List.append_nil _
 have pm : (news ++ (ads.fz ++ [(a, o)] ++ lw)).Perm ((a, o) :: (news ++ (ads.fz ++ lw))) := by
  rw [← List.append_assoc, ← List.append_assoc, List.append_assoc (news ++ ads.fz), List.singleton_append, ← List.append_assoc]
  exact List.perm_middle
 refine ⟨m, news, lw, F', fun p hp => ?_, X.loc.mono, ?_, ?_, X.ups⟩
 ·rw [efz] at hp
  exact N' p (pm.mem_iff.mp hp)
 ·rw [eads]; exact X.led.mono
 ·rw [efz]
  refine (pm.map (·.1)).nodup_iff.mpr (List.nodup_cons.mpr ⟨fun q => ?_, X.nd⟩)
  obtain ⟨p, hp, e⟩ := List.mem_map.mp q
  have h1 := Heap.lt_size (X.nw p hp).1
  have h2 : p.1 = a := e
  rw [h2] at h1
  exact Nat.lt_irrefl _ (Nat.lt_of_lt_of_le h1 ha)
theorem rep_fzAt {h h' : Heap} {a : Addr} {o : Obj} (R : Rep w F ads st h) (grow : ∀ b o, h.get? b = some o → h'.get? b = some o) (ho : h'.get? a = some o) (ha : h.objs.size ≤ a) : Rep w F (ads ++ (⟨[], [(a, o)]⟩ : Wd)) st h' := by
 obtain ⟨oL, hL⟩ := rep_L R
 obtain ⟨m, news, lw, X⟩ := R
 have old : ∀ b o, h.get? b = some o → b ≠ a := fun b o e q => by
  have := Heap.lt_size e
  rw [q] at this
  exact Nat.lt_irrefl _ (Nat.lt_of_lt_of_le this ha)
 refine rep_fzN X ⟨X.fr.ns.at' fun o q => grow _ _ q, fun b o q => grow _ _ (X.fr.keep b o q), X.fr.above⟩ (fun p hp => ?_) ha
 rcases List.mem_cons.mp hp with rfl | hp
 ·refine ⟨ho, fun e => old _ _ hL e.symm, ?_⟩
  cases q : F.h₀.get? a with
  | none => rfl
  | some o' => exact absurd rfl (old _ _ (X.fr.keep _ _ q))
 ·exact ⟨grow _ _ (X.nw p hp).1, (X.nw p hp).2⟩
theorem fz_last (ads : Wd) (a : Addr) (o : Obj) : (a, o) ∈ (ads ++ (⟨[], [(a, o)]⟩ : Wd)).fz := List.mem_append_right _ (.head _)
theorem den_newL {vs : List Value} {ds : List PyData} {a : Addr} {n : Nat} (hl : ds.length ≤ sizeLine) (f : ∀ d ∈ ds, Fits d) (r : RdL F.B ads.fz vs ds) : Den F.B (ads ++ (⟨[], [(a, listO vs n)]⟩ : Wd)) (.dat (.list ds)) (.ref a) :=
 ⟨⟨a, rfl⟩, .list hl f, .list (.inr (fz_last ads a _)) rfl rfl (by show RdL F.B (ads ++ (⟨[], [(a, listO vs n)]⟩ : Wd)).fz vs.toArray.toList ds; rw [List.toList_toArray]; exact r.mono fun p hp => List.mem_append_left _ hp)⟩
noncomputable abbrev seqO (o : Option SO) : Option (Bool × List SV) := match o with
 | none => none
 | some x => match x with
  | .list xs => some (true, xs)
  | .tup xs => some (false, xs)
  | _ => none
theorem no_some {α : Type} {c : α} {P : Prop} (h : none = some c) : P := nomatch h
theorem seqO_some {o : Option SO} {b : Bool} {xs : List SV} (h : seqO o = some (b, xs)) : (b = true ∧ o = some (.list xs)) ∨ (b = false ∧ o = some (.tup xs)) := by
 cases o with
 | none => exact no_some h
 | some x => cases x <;> first | exact no_some h | (cases h; first | exact .inl ⟨rfl, rfl⟩ | exact .inr ⟨rfl, rfl⟩)
noncomputable def seqOf (st : St) (v : SV) : Option (Bool × List SV) := match v with
 | .obj i => seqO st.led[i]?
 | .dat d => match d with
  | .list ds => some (true, ds.map svOf)
  | .tuple ds => some (false, ds.map svOf)
  | _ => none
 | _ => none
noncomputable def SeqAt (h : Heap) (b : Bool) (a : Addr) (vs : List Value) : Prop := match b with
 | true => h.IsList a vs.toArray
 | false => h.IsTuple a vs.toArray
theorem Got.look {B : Heap} {fz : List (Addr × Obj)} {h : Heap} {a : Addr} {o : Obj} (g : Got B fz a o) (l : Look B fz h) : h.get? a = some o := g.elim (l.1 _ _) (l.2 _)
theorem fits_list {ds : List PyData} (f : Fits (.list ds)) : ds.length ≤ sizeLine ∧ ∀ d ∈ ds, Fits d := by cases f with | list a b => exact ⟨a, b⟩
theorem fits_tup {ds : List PyData} (f : Fits (.tuple ds)) : ds.length ≤ sizeLine ∧ ∀ d ∈ ds, Fits d := by cases f with | tuple a b => exact ⟨a, b⟩
theorem seq_sound {b : Bool} {v : SV} {u : Value} {xs : List SV} (ok : FmOk C F) (R : Rep w F ads st s.heap) (d : Den F.B ads v u) (e : seqOf st v = some (b, xs)) : ∃ a vs, u = .ref a ∧ SeqAt s.heap b a vs ∧ DenL F.B ads xs vs := by
 have lk0 := rep_look ok R
 cases v <;> first | exact no_some e | skip
 ·rename_i i
  rcases seqO_some e with ⟨rfl, hi⟩ | ⟨rfl, hi⟩
  ·obtain ⟨m, news, lw, pre, ps, post, a, dd, X, h1, h2, h3, h4⟩ := rep_at R hi
   obtain ⟨p, hp, rfl⟩ := d
   rw [h2] at hp; cases hp
   obtain ⟨vs, n, D, rfl⟩ := h3.inv
   ·exact ⟨a, vs, rfl, ⟨_, (X.nw (a, listO vs n) (by rw [h1]; simp)).1, rfl, n, rfl⟩, D⟩
  ·obtain ⟨m, news, lw, pre, ps, post, a, dd, X, h1, h2, h3, h4⟩ := rep_at R hi
   obtain ⟨p, hp, rfl⟩ := d
   rw [h2] at hp; cases hp
   obtain ⟨vs, n, D, rfl⟩ := h3.inv
   ·exact ⟨a, vs, rfl, ⟨_, (X.nw (a, tupO vs n) (by rw [h1]; simp)).1, rfl, n, rfl⟩, D⟩
 ·rename_i d'
  cases d' <;> first | exact no_some e | skip
  ·cases e
   obtain ⟨⟨a, rfl⟩, f, r⟩ := d
   obtain ⟨f1, f2⟩ := fits_list f
   cases r with
   | list g c q r => exact ⟨a, _, rfl, ⟨_, g.look lk0, c, _, by rw [q]⟩, denL_rd f2 r⟩
  ·cases e
   obtain ⟨⟨a, rfl⟩, f, r⟩ := d
   obtain ⟨f1, f2⟩ := fits_tup f
   cases r with
   | tuple g c q r => exact ⟨a, _, rfl, ⟨_, g.look lk0, c, _, by rw [q]⟩, denL_rd f2 r⟩
noncomputable def frz1 : SV → Option PyData
 | .none => some .none
 | .bool b => some (.bool b)
 | .int i => some (.int i)
 | .str s => some (.str s)
 | .sg c _ _ => some (.str (sgS c))
 | .dat d => some d
 | _ => none
noncomputable def frzs : List SV → Option (List PyData)
 | [] => some []
 | x :: xs => match frz1 x with
  | some d => match frzs xs with
   | some ds => some (d :: ds)
   | none => none
  | none => none
theorem frz1_svOf (d : PyData) : frz1 (svOf d) = some d := by cases d <;> rfl
theorem frz1_sound {B : Heap} {W : Wd} {x : SV} {v : Value} {d : PyData} (dn : Den B W x v) (e : frz1 x = some d) : Fits d ∧ Rd B W.fz v d := by
 cases x with
 | none => cases e; cases dn; exact ⟨.none, .none⟩
 | bool b => cases e; cases dn; exact ⟨.bool _, .bool _⟩
 | int i => cases e; obtain ⟨t, rfl⟩ := dn; exact ⟨.int _, .int _ _⟩
 | str s => cases e; obtain ⟨⟨t, rfl⟩, l⟩ := dn; exact ⟨.str l, .str _ _⟩
 | sg c es fs => cases e; obtain ⟨⟨t, rfl⟩, _⟩ := dn; exact ⟨.str (by rw [show (sgS c).length = 1 from rfl, sizeLine_eq]; lia), .str _ _⟩
 | dat d => cases e; obtain ⟨_, f, r⟩ := dn; exact ⟨f, r⟩
 | _ => cases e
theorem frzs_sound {B : Heap} {W : Wd} : ∀ {xs : List SV} {vs : List Value} {ds : List PyData}, DenL B W xs vs → frzs xs = some ds → (∀ d ∈ ds, Fits d) ∧ RdL B W.fz vs ds ∧ ds.length = xs.length
 | _, _, _, .nil, e => by cases e; exact ⟨(fun _ h => by cases h), .nil, rfl⟩
 | _, _, _, .cons dx dr, e => by
  unfold frzs at e
  split at e
  ·rename_i d hd
   split at e
   ·rename_i ds hds
    cases e
    obtain ⟨a1, a2⟩ := frz1_sound dx hd
    obtain ⟨b1, b2, b3⟩ := frzs_sound dr hds
    exact ⟨fun y hy => by
     rcases List.mem_cons.mp hy with rfl | hy
     ·exact a1
     ·exact b1 y hy, .cons a2 b2, by simp [b3]⟩
   ·cases e
  ·cases e
noncomputable def listDat (st : St) (v : SV) (k : List PyData → Prop) : Prop := match v with
 | .dat d => match d with
  | .list ds => k ds
  | _ => False
 | .obj i => onLst st.led[i]? fun xs => onOpt (frzs xs) fun ds => ds.length ≤ sizeLine ∧ k ds
 | _ => False
theorem listDat_sound {v : SV} {u : Value} {k : List PyData → Prop} (ok : FmOk C F) (R : Rep w F ads st s.heap) (d : Den F.B ads v u) (e : listDat st v k) : ∃ a vs ds, u = .ref a ∧ s.heap.IsList a vs.toArray ∧ (∀ d ∈ ds, Fits d) ∧ RdL F.B ads.fz vs ds ∧ ds.length ≤ sizeLine ∧ k ds := by
 cases v <;> first | exact False.elim e | skip
 rotate_left
 ·rename_i d'
  cases d' <;> first | exact False.elim e | skip
  ·rename_i ds
   obtain ⟨⟨a, rfl⟩, f, r⟩ := d
   obtain ⟨f1, f2⟩ := fits_list f
   cases r with
   | list g c q r => exact ⟨a, _, ds, rfl, ⟨_, g.look (rep_look ok R), c, _, by rw [q]⟩, f2, r, f1, e⟩
 ·rename_i i
  obtain ⟨xs, hi, e⟩ := onLst_some e
  obtain ⟨ds, hds, e⟩ := onOpt_some e
  obtain ⟨a, vs, hu, hs, D⟩ := seq_sound (b := true) (xs := xs) ok R d (congrArg seqO hi)
  obtain ⟨b1, b2, b3⟩ := frzs_sound D hds
  exact ⟨a, vs, ds, hu, hs, b1, b2, e.1, e.2⟩
theorem rdL_length {B : Heap} {fz : List (Addr × Obj)} : ∀ {vs : List Value} {ds : List PyData}, RdL B fz vs ds → vs.length = ds.length := by
 intro vs
 induction vs with
 | nil => intro ds r; cases r; rfl
 | cons v vs ih => intro ds r; cases r with | cons a r => exact congrArg (· + 1) (ih r)
theorem rdL_append {B : Heap} {fz : List (Addr × Obj)} : ∀ {vs us : List Value} {ds es : List PyData}, RdL B fz vs ds → RdL B fz us es → RdL B fz (vs ++ us) (ds ++ es) := by
 intro vs
 induction vs with
 | nil => intro us ds es r h; cases r; exact h
 | cons v vs ih => intro us ds es r h; cases r with | cons a r => exact .cons a (ih r h)
theorem rdL_get {B : Heap} {fz : List (Addr × Obj)} : ∀ {vs : List Value} {ds : List PyData}, RdL B fz vs ds → ∀ i : Nat, (vs[i]? = none ∧ ds[i]? = none) ∨ ∃ v d, vs[i]? = some v ∧ ds[i]? = some d ∧ Rd B fz v d := by
 intro vs
 induction vs with
 | nil => intro ds r i; cases r; exact .inl ⟨rfl, rfl⟩
 | cons v vs ih =>
  intro ds r i
  cases r with
  | cons a r =>
   cases i with
   | zero => exact .inr ⟨_, _, rfl, rfl, a⟩
   | succ i => exact ih r i
theorem rdL_pick {B : Heap} {fz : List (Addr × Obj)} {vs : List Value} {ds : List PyData} (r : RdL B fz vs ds) : ∀ l : List Nat, RdL B fz (l.filterMap (vs[·]?)) (l.filterMap (ds[·]?))
 | [] => .nil
 | i :: l => by
  rcases rdL_get r i with ⟨a, b⟩ | ⟨v, d, a, b, c⟩
  ·rw [List.filterMap_cons, List.filterMap_cons, a, b]; exact rdL_pick r l
  ·rw [List.filterMap_cons, List.filterMap_cons, a, b]; exact .cons c (rdL_pick r l)
theorem addL_sound {A : Around} {x y : SV} {a b : Value} {k : List PyData → Prop} {E : Value → Shared → Prop} {Q : Value → Shared → Prop} (ok : FmOk C F) (R : Rep w F ads st s.heap) (dx : Den F.B ads x a) (dy : Den F.B ads y b)
  (h : listDat st x fun ds => listDat st y fun es => ds.length + es.length ≤ sizeLine ∧ k (ds ++ es))
  (hQ : ∀ ds more v s', k ds → Rep w F (ads ++ more) st s'.heap → Nx F s s' → Den F.B (ads ++ more) (.dat (.list ds)) v → Q v s') : wpAny (model prog w) A (binaryOp .Add a b) Q E s := by
 obtain ⟨l1, vs, ds, rfl, hl1, f1, r1, _, h⟩ := listDat_sound ok R dx h
 obtain ⟨l2, us, es, rfl, hl2, f2, r2, _, hle, h⟩ := listDat_sound ok R dy h
 obtain ⟨m, news, lw, X⟩ := R
 refine add_lists X.fr X.nw hl1 hl2 (fun h' F' N' => ?_) (by rw [rdL_length r1, rdL_length r2]; exact hle)
 exact hQ _ ⟨[], [(s.heap.objs.size, listO (vs ++ us) 0)]⟩ _ _ h (rep_fzN X F' N' (Nat.le_refl _)) (Nx.of_gens rfl rfl rfl) (den_newL (by simpa using hle) (fun d hd => (List.mem_append.mp hd).elim (f1 d) (f2 d)) (rdL_append r1 r2))
theorem rep_list {i : Nat} {xs : List SV} {h : Heap} (R : Rep w F ads st h) (hi : st.led[i]? = some (.list xs)) {v : Value} (d : Den F.B ads (.obj i) v) :
  ∃ a vs n, v = .ref a ∧ h.get? a = some (listO vs n) ∧ DenL F.B ads xs vs ∧ ∀ h' xs' vs' n', h'.get? a = some (listO vs' n') → (∀ b, b ≠ a → ∀ o, h.get? b = some o → h'.get? b = some o) → DenL F.B ads xs' vs' →
   Rep w F ads { st with led := st.led.set i (.list xs') } h' := by
 obtain ⟨m, news, lw, X⟩ := R
 obtain ⟨pre, ps, post, a, dd, h1, h2, h3, h4⟩ := X.led.at hi
 obtain ⟨p, hp, rfl⟩ := d
 rw [h2] at hp; cases hp
 obtain ⟨vs, n, D, rfl⟩ := h3.inv
 ·exact ⟨a, vs, n, rfl, (X.nw (a, listO vs n) (by rw [h1]; simp)).1, D, fun h' xs' vs' n' ho hs D' => rep_set1 X h1 (h4 _ _ (One.list (n := n') D')) ho hs⟩
noncomputable def idxP (xs : List SV) (i : Int) (x : SV) : Prop := ∃ j, seqIndex? i xs.length = some j ∧ xs[j]? = some x ∧ -4611686018427387904 ≤ i ∧ i < 4611686018427387904
theorem idx_sound {o i : Expr} {v x : SV} {u : Value} {b : Bool} {xs : List SV} {k : Int} {t : Tok} {A : Around} {E : Value → Shared → Prop} {Q : Value → Shared → Prop} (hs : ∀ l, subscripted i false (.ref l) (.int k t) = operate [.ref l, .int k t] (getItem (.ref l) (.int k t))) (ok : FmOk C F) (R : Rep w F ads st s.heap) (d : Den F.B ads v u)
  (e : seqOf st v = some (b, xs)) (h : idxP xs k x) (hQ : ∀ y, Den F.B ads x y → Q y s) : wpAny (model prog w) A (subscriptTail o i u (.int k t)) Q E s := by
 obtain ⟨a, vs, rfl, hsq, D⟩ := seq_sound ok R d e
 obtain ⟨j, hj, hx, h1, h2⟩ := h
 obtain ⟨y, hy, dy⟩ := D.get hx
 rw [D.length] at hj
 cases b with
 | true =>
  have hl : s.heap.IsList a vs.toArray := hsq
  refine tail_any hl.typeIs slot_list_getitem.lookup ?_ (hs a)
  unfold seqIndex? at hj
  by_cases hk : k < 0
  ·rw [if_pos hk] at hj
   dsimp only at hj
   split at hj
   ·rename_i hc
    simp only [Bool.and_eq_true, decide_eq_true_eq] at hc
    cases hj
    exact wpAny_getItem_list_neg hl hk (by simp; lia) (by lia) (by simpa using hy) (hQ y dy)
   ·cases hj
  ·rw [if_neg hk] at hj
   dsimp only at hj
   split at hj
   ·cases hj
    exact wpAny_getItem_list hl (by lia) (by lia) (by simpa using hy) (hQ y dy)
   ·cases hj
 | false =>
  have hl : IsTup s.heap a vs.toArray := hsq
  exact tail_any hl.typeIs slot_tuple_getitem.lookup (PyProof.Rows.getItem_tuple hl (by lia) (by lia) (by simpa using hj) (by simpa using hy) (hQ y dy)) (hs a)
noncomputable def slD (ds : List PyData) (lo hi : Option Int) : List PyData := (sliceRange (sliceBounds lo hi none ds.length).1 (sliceBounds lo hi none ds.length).2.1 (sliceBounds lo hi none ds.length).2.2).filterMap (ds[·]?)
theorem slD_sub {ds : List PyData} {lo hi : Option Int} {d : PyData} (h : d ∈ slD ds lo hi) : d ∈ ds := by
 unfold slD at h
 obtain ⟨i, _, hi⟩ := List.mem_filterMap.mp h
 exact List.mem_of_getElem? hi
noncomputable def PartV : Option Int → Value → Prop
 | none, v => v = .none
 | some i, v => ∃ t, v = .int i t
theorem PartV.is {l : Option Int} {v : Value} (p : PartV l v) : IsPart v l := by
 cases l with
 | none => cases p; exact .none
 | some i => obtain ⟨t, rfl⟩ := p; exact .int _ _
theorem slL_sound {o : Expr} {lo hi : Option Expr} {q : Pos} {ds : List PyData} {v vl vu : Value} {l u : Option Int} {A : Around} {E : Value → Shared → Prop} {Q : Value → Shared → Prop} (ok : FmOk C F) (R : Rep w F ads st s.heap) (d : Den F.B ads (.dat (.list ds)) v) (pl : PartV l vl) (pu : PartV u vu)
  (hQ : ∀ more r s', Rep w F (ads ++ more) st s'.heap → Nx F s s' → Den F.B (ads ++ more) (.dat (.list (slD ds l u))) r → Q r s') :
  wpAny (model prog w) A (subscriptTail o (.Slice lo hi none q) v (.ref s.heap.objs.size)) Q E { s with heap := s.heap.push { cls := .type "slice", data := .fields #[vl, vu, .none] } } := by
 obtain ⟨⟨a, rfl⟩, f, r⟩ := d
 obtain ⟨f1, f2⟩ := fits_list f
 cases r with
 | list g c e r =>
  rename_i ob vs n
  have hl0 : s.heap.IsList a vs := ⟨_, g.look (rep_look ok R), c, _, e⟩
  have hl : (s.heap.push { cls := .type "slice", data := .fields #[vl, vu, .none] }).IsList a vs := hl0.push _
  have len : vs.size = ds.length := by rw [← rdL_length r]; simp
  refine tail_any (s := { s with heap := s.heap.push { cls := .type "slice", data := .fields #[vl, vu, .none] } }) hl.typeIs slot_list_getitem.lookup
   (wpAny_getItem_list_slice hl (Heap.IsSliceOf.new ..) pl.is pu.is .none (by simp) ?_ (by rw [len]; exact f1)) (by with_unfolding_all rfl)
  have e1 : (slicePick vs l u none) = (((sliceRange (sliceBounds l u none ds.length).1 (sliceBounds l u none ds.length).2.1 (sliceBounds l u none ds.length).2.2).filterMap (vs.toList[·]?))).toArray := by
   unfold slicePick; rw [len]; congr 1; congr 1; funext i; simp
  rw [e1]
  refine hQ ⟨[], [((s.heap.push { cls := .type "slice", data := .fields #[vl, vu, .none] }).objs.size, _)]⟩ _ _ (rep_fzAt R (fun b o q => Heap.get?_push_of_some _ (Heap.get?_push_of_some _ q)) (Heap.get?_push_size _ rfl) (by rw [Heap.size_push]; lia)) (Nx.of_gens rfl rfl rfl) ?_
  refine den_newL ?_ (fun d hd => f2 d (slD_sub hd)) (rdL_pick r _)
  have := slicePick_size_le vs l u none
  rw [e1, len] at this
  have e2 := rdL_length (rdL_pick r (sliceRange (sliceBounds l u none ds.length).1 (sliceBounds l u none ds.length).2.1 (sliceBounds l u none ds.length).2.2))
  have e3 : (slD ds l u).length ≤ ds.length := by
   show ((sliceRange (sliceBounds l u none ds.length).1 (sliceBounds l u none ds.length).2.1 (sliceBounds l u none ds.length).2.2).filterMap (ds[·]?)).length ≤ _
   rw [← e2]; simpa using this
  lia
noncomputable abbrev consO {α : Type} (a : Option α) (b : Option (List α)) : Option (List α) := match a with
 | none => none
 | some x => match b with
  | none => none
  | some y => some (x :: y)
theorem consO_some {α : Type} {a : Option α} {b : Option (List α)} {c : List α} (h : consO a b = some c) : ∃ x y, a = some x ∧ b = some y ∧ c = x :: y := by
 cases a with
 | none => exact no_some h
 | some x => cases b with
  | none => exact no_some h
  | some y => exact ⟨x, y, rfl, rfl, (Option.some.inj h).symm⟩
noncomputable def frzD : Nat → List SO → SV → Option PyData
 | 0, _, _ => none
 | n + 1, led, v => match v with
  | .obj i => match seqO led[i]? with
   | none => none
   | some bx => match bx with
    | (b, xs) => (xs.foldr (fun x acc => consO (frzD n led x) acc) (some [])).map (match b with | true => .list | false => .tuple)
  | v => frz1 v
theorem frzD_reads (ok : FmOk C F) (R : Rep w F ads st s.heap) : ∀ (n : Nat) (v : SV) (u : Value) (d : PyData), Den F.B ads v u → frzD n st.led v = some d → ∃ as, Reads s.heap u d as
 | 0, _, _, _, _, h => by cases h
 | n + 1, v, u, d, dn, h => by
  have all : ∀ (xs : List SV) (vs : List Value) (ds : List PyData), DenL F.B ads xs vs → xs.foldr (fun x acc => consO (frzD n st.led x) acc) (some []) = some ds → ∃ as, ReadsAll s.heap vs ds as := by
   intro xs vs ds D
   induction D generalizing ds with
   | nil => intro h; cases h; exact ⟨_, .nil⟩
   | cons dx _ ih =>
    intro h
    obtain ⟨d', ds', hd, hds, rfl⟩ := consO_some h
    obtain ⟨a1, r1⟩ := frzD_reads ok R n _ _ _ dx hd
    obtain ⟨a2, r2⟩ := ih _ hds
    exact ⟨_, .cons r1 r2⟩
  have lk0 := rep_look ok R
  have plain : frz1 v = some d → ∃ as, Reads s.heap u d as := fun h => (frz1_sound dn h).2.reads lk0
  cases v <;> first | exact plain h | skip
  rename_i i
  replace h : (match seqO st.led[i]? with
   | none => none
   | some bx => match bx with
    | (b, xs) => (xs.foldr (fun x acc => consO (frzD n st.led x) acc) (some [])).map (match b with | true => PyData.list | false => PyData.tuple)) = some d := h
  cases hi : seqO st.led[i]? with
  | none => rw [hi] at h; exact no_some h
  | some bx =>
   rw [hi] at h
   obtain ⟨b, xs⟩ := bx
   obtain ⟨ds, g, rfl⟩ := Option.map_eq_some_iff.mp h
   obtain ⟨a, vs, rfl, hs, D⟩ := seq_sound ok R dn hi
   obtain ⟨as, r⟩ := all xs vs ds D g
   cases b with
   | true =>
    obtain ⟨o, h1, h2, m, h3⟩ := hs
    exact ⟨_, .list h1 h2 h3 (by simpa using r)⟩
   | false =>
    obtain ⟨o, h1, h2, m, h3⟩ := hs
    exact ⟨_, .tuple h1 h2 h3 (by simpa using r)⟩
noncomputable def eqD (n : Nat) (st : St) (x y : SV) (k : Bool → Prop) : Prop := onOpt (frzD 4 st.led x) fun d => onOpt (frzD 4 st.led y) fun e => 8 ≤ n ∧ d.canLay0 = true ∧ e.canLay0 = true ∧ min d.depth e.depth ≤ 60 ∧ k (d.eqv e)
theorem eqD_sound {n : Nat} {ne : Bool} {x y : SV} {a b : Value} {k : Bool → Prop} {A : Around} {E : Value → Shared → Prop} {Q : Value → Shared → Prop} (ok : FmOk C F) (hu : A.units + 8 * (n + 1) < cLine) (R : Rep w F ads st s.heap) (dx : Den F.B ads x a) (dy : Den F.B ads y b) (h : eqD n st x y k)
  (hQ : ∀ c, k c → Q (.bool (if ne then !c else c)) s) : wpAny (model prog w) A (compareOp (if ne then .NotEq else .Eq) a b) Q E s := by
 obtain ⟨d, hd, h⟩ := onOpt_some h
 obtain ⟨e, he, h1, h2, h3, h4, h5⟩ := onOpt_some h
 obtain ⟨as, ra⟩ := frzD_reads ok R 4 _ _ _ dx hd
 obtain ⟨bs, rb⟩ := frzD_reads ok R 4 _ _ _ dy he
 cases ne with
 | true => exact SeqAt.compareNe_reads ra rb h2 h3 (by lia) (hQ _ h5)
 | false => exact SeqAt.compareEq_reads ra rb h2 h3 (by lia) (hQ _ h5)
theorem len_sound {A : Around} {v : SV} {u : Value} {b : Bool} {xs : List SV} {E : Value → Shared → Prop} {Q : Value → Shared → Prop} (ok : FmOk C F) (R : Rep w F ads st s.heap) (d : Den F.B ads v u) (e : seqOf st v = some (b, xs)) (hl : xs.length ≤ sizeLine)
  (hQ : ∀ t t', Q (.int xs.length t) { s with toks := t' }) : wpAny (model prog w) A (call (.builtin "len") [u]) Q E s := by
 obtain ⟨a, vs, rfl, hsq, D⟩ := seq_sound ok R d e
 have e1 : (vs.toArray.size : Int) = xs.length := by rw [D.length]; simp
 rw [sizeLine_eq] at hl
 cases b with
 | true => exact Calls.call_len_list hsq (by rw [e1]; lia) (by rw [e1]; exact hQ _ _)
 | false => exact PyProof.Rows.len_tuple hsq (by rw [e1]; lia) (by rw [e1]; exact hQ _ _)
theorem append_sound {A : Around} {i : Nat} {xs : List SV} {x : SV} {u y : Value} {E : Value → Shared → Prop} {Q : Value → Shared → Prop} (R : Rep w F ads st s.heap) (d : Den F.B ads (.obj i) u) (hi : st.led[i]? = some (.list xs)) (dx : Den F.B ads x y) (hl : xs.length ≤ sizeLine)
  (hQ : ∀ h', Rep w F ads { st with led := st.led.set i (.list (xs ++ [x])) } h' → Q .none { s with heap := h' }) : wpAny (model prog w) A (call (.builtin "list.append") [u, y]) Q E s := by
 obtain ⟨a, vs, n, rfl, ho, D, upd⟩ := rep_list R hi d
 have hlv : vs.toArray.size ≤ sizeLine := by have := D.length; simp; lia
 refine wpAny_call_entry slot_list_append (T := "list") ⟨_, ho, rfl⟩ entry_list_append ?_ (args_list_append _ _)
 show wpAny _ _ (updateSeq a (·.push y) >>= fun _ => ret .none) _ _ s
 refine wpAny_bind ?_
 refine wpAny_updateSeq ho rfl (wpAny_pure ⟨.none, rfl, hQ _ ?_⟩) hlv (by simp; simpa using hlv)
 have ho' := Heap.get?_update_self (Obj.mapSeq (·.push y)) ho rfl
 exact upd _ (xs ++ [x]) (vs ++ [y]) n.succ (by rw [ho']; simp [Obj.mapSeq]) (fun b hb o q => (Heap.get?_update_other _ _ (Ne.symm hb)).trans q) (D.append (.cons dx .nil))
theorem DenL.set {B : Heap} {G : Wd} {x : SV} {v : Value} (d : Den B G x v) : ∀ {xs : List SV} {vs : List Value} (n : Nat), DenL B G xs vs → DenL B G (xs.set n x) (vs.set n v)
 | _, _, _, .nil => .nil
 | _, _, 0, .cons _ r => .cons d r
 | _, _, n + 1, .cons e r => .cons e (DenL.set d n r)
theorem setL_sound {A : Around} {i : Nat} {xs : List SV} {x : SV} {u y : Value} {k : Int} {t : Tok} {E : Value → Shared → Prop} {Q : Unit → Shared → Prop} (R : Rep w F ads st s.heap) (d : Den F.B ads (.obj i) u) (hi : st.led[i]? = some (.list xs)) (h0 : 0 ≤ k) (hn : k < (xs.length : Int)) (hl : xs.length ≤ sizeLine) (dx : Den F.B ads x y)
  (hQ : ∀ h', Rep w F ads { st with led := st.led.set i (.list (xs.set k.toNat x)) } h' → Q () { s with heap := h' }) : wpAny (model prog w) A (setItem u (.int k t) y) Q E s := by
 obtain ⟨l, vs, n, rfl, ho, D, upd⟩ := rep_list R hi d
 have hL : s.heap.IsList l vs.toArray := ⟨_, ho, rfl, n, rfl⟩
 have eD := D.length
 have hfit : k < 2 ^ 63 := by rw [sizeLine_eq] at hl; lia
 unfold setItem
 try with_reducible refine wpAny_holding ?_
 first | refine wpAny_bind (wpAny_pure ?_) | skip
 refine wpAny_bind (wpAny_sequenceKey hL.typeIs (by decide) ?_)
 refine wpAny_bind (wpAny_callSpecial?_slot (name := Str.ofString "__setitem__") hL.typeIs slot_list_setitem
  (wpAny_call_entry slot_list_setitem hL.typeIs entry_list_setitem ?_ (args_list_setitem _ _ _)))
 show wpAny _ _ (Builtin.List.listSubscript? (.int k t) >>= _) _ _ s
 refine wpAny_bind (wpAny_listSubscript_int (fitsIndex_of h0 hfit) ?_)
 clear hfit
 obtain ⟨j, rfl⟩ := Int.eq_ofNat_of_zero_le h0
 have hj : j < vs.toArray.size := by simp; lia
 have hx' : vs.toArray[j]? = some vs.toArray[j] := Array.getElem?_eq_getElem hj
 show wpAny _ _ ((seqItemAt l j >>= fun r => pure (r.map (j, ·))) >>= _) _ _ s
 refine wpAny_bind (wpAny_bind (wpAny_seqItemAt ho rfl (wpAny_pure ?_)))
 rw [hx']
 show wpAny _ _ (setSeqItemAt l j y >>= _) _ _ s
 refine wpAny_bind (wpAny_setSeqItemAt ho rfl ?_)
 have fin : Q () { s with heap := s.heap.update l (Obj.mapSeq (·.setIfInBounds j y)) } := by
  have ho' := Heap.get?_update_self (Obj.mapSeq (·.setIfInBounds j y)) ho rfl
  refine hQ _ (upd _ (xs.set j x) (vs.set j y) n (by rw [ho']; simp [Obj.mapSeq]) (fun b hb o q => (Heap.get?_update_other _ _ (Ne.symm hb)).trans q) (DenL.set dx j D))
 first
  | exact wpAny_bind (wpAny_pure (wpAny_pure ⟨.none, rfl, wpAny_pure fin⟩))
  | exact wpAny_pure ⟨.none, rfl, wpAny_pure fin⟩
theorem erase_last {α : Type} : ∀ (us : List α) (y : α), (us ++ [y]).eraseIdx us.length = us
 | [], _ => rfl
 | u :: us, y => congrArg (List.cons u) (erase_last us y)
theorem pop_sound {A : Around} {i : Nat} {xs : List SV} {x : SV} {u : Value} {E : Value → Shared → Prop} {Q : Value → Shared → Prop} (R : Rep w F ads st s.heap) (d : Den F.B ads (.obj i) u) (hi : st.led[i]? = some (.list (xs ++ [x]))) (hl : xs.length < sizeLine)
  (hQ : ∀ h' y, Rep w F ads { st with led := st.led.set i (.list xs) } h' → Den F.B ads x y → Q y { s with heap := h' }) : wpAny (model prog w) A (call (.builtin "list.pop") [u]) Q E s := by
 obtain ⟨a, vs, n, rfl, ho, D, upd⟩ := rep_list R hi d
 obtain ⟨us, y, rfl, D1, dy⟩ : ∃ us y, vs = us ++ [y] ∧ DenL F.B ads xs us ∧ Den F.B ads x y := by
  clear hi upd ho hl hQ
  generalize hz : xs ++ [x] = zs at D
  induction D generalizing xs with
  | nil => cases xs <;> cases hz
  | cons dx dr ih =>
   cases xs with
   | nil =>
    cases hz
    cases dr
    exact ⟨[], _, rfl, .nil, dx⟩
   | cons z zs =>
    cases hz
    obtain ⟨us, y, rfl, a, b⟩ := ih rfl
    exact ⟨_ :: us, y, rfl, .cons dx a, b⟩
 have hlv : (us ++ [y]).toArray.size ≤ sizeLine := by have := D1.length; simp; lia
 have hsz : (us ++ [y]).toArray.size - 1 = us.length := by simp
 refine call_meets PySem.F.slot_list_pop (T := "list") ⟨_, ho, rfl⟩ PySem.F.entry_list_pop (PySem.F.args_list_pop_1 _) (MeetsSeq.list_pop_last a (us ++ [y]).toArray n y (by rw [hsz]; simp) hlv) ⟨ho, ?_⟩
 refine hQ _ y (upd _ xs us (n + 1) ?_ (fun b hb o q => (Heap.get?_update_other _ _ (Ne.symm hb)).trans q) D1) dy
 rw [Heap.get?_update_self (Obj.mapSeq fun xs => xs.eraseIdxIfInBounds ((us ++ [y]).toArray.size - 1)) ho rfl, hsz]
 have e1 := erase_last us y
 simp [Obj.mapSeq, Array.eraseIdxIfInBounds, e1]
end
mutual
/-- a value taken as data that never changes again -/
inductive Frz (led : List SO) : SV → PyData → Prop
 | none : Frz led .none .none
 | bool (b) : Frz led (.bool b) (.bool b)
 | int (i) : Frz led (.int i) (.int i)
 | str (s) : Frz led (.str s) (.str s)
 | sg (c es fs) : Frz led (.sg c es fs) (.str (sgS c))
 | dat (d) : Frz led (.dat d) d
 | list {i xs ds} : led[i]? = some (.list xs) → xs.length ≤ sizeLine → FrzL led xs ds → Frz led (.obj i) (.list ds)
 | tup {i xs ds} : led[i]? = some (.tup xs) → xs.length ≤ sizeLine → FrzL led xs ds → Frz led (.obj i) (.tuple ds)
inductive FrzL (led : List SO) : List SV → List PyData → Prop
 | nil : FrzL led [] []
 | cons {x d xs ds} : Frz led x d → FrzL led xs ds → FrzL led (x :: xs) (d :: ds)
end
section
variable {w : World} {C : Cf} {F : Fm} {ads : Wd} {s : Shared} {st : St}
theorem FrzL.length {led : List SO} : ∀ {xs : List SV} {ds : List PyData}, FrzL led xs ds → ds.length = xs.length := by
 intro xs
 induction xs with
 | nil => intro ds r; cases r; rfl
 | cons x xs ih => intro ds r; cases r with | cons _ r => exact congrArg (· + 1) (ih r)
theorem LedR.atI {P : Params} {B : Heap} {G : Wd} : ∀ {ads : List (Addr × Addr)} {led : List SO} {news : List (Addr × Obj)} {i : Nat} {so : SO}, LedR P B G ads led news → led[i]? = some so → ∃ a d ps, ads[i]? = some (a, d) ∧ One P B G so a d ps ∧ ∀ p ∈ ps, p ∈ news := by
 intro ads led news i so r h
 obtain ⟨pre, ps, post, a, d, h1, h2, h3, _⟩ := r.at h
 exact ⟨a, d, ps, h2, h3, fun p hp => by rw [h1]; exact List.mem_append_left _ (List.mem_append_right _ hp)⟩
noncomputable def LedAt (P : Params) (B : Heap) (G : Wd) (led : List SO) (S : List (Addr × Obj)) : Prop := ∀ (i : Nat) (so : SO), led[i]? = some so → so = .gone ∨ ∃ a d ps, G.ads[i]? = some (a, d) ∧ One P B G so a d ps ∧ ∀ p ∈ ps, p ∈ S
mutual
theorem Frz.rdAt {P : Params} {B : Heap} {G : Wd} {led : List SO} {S : List (Addr × Obj)} (X : LedAt P B G led S) : ∀ {x : SV} {d : PyData} {v : Value}, Frz led x d → Den B G x v → Fits d ∧ Rd B (S ++ G.fz) v d
 | _, _, _, .none, e => by cases e; exact ⟨.none, .none⟩
 | _, _, _, .bool b, e => by cases e; exact ⟨.bool _, .bool _⟩
 | _, _, _, .int i, e => by obtain ⟨t, rfl⟩ := e; exact ⟨.int _, .int _ _⟩
 | _, _, _, .str s, e => by obtain ⟨⟨t, rfl⟩, l⟩ := e; exact ⟨.str l, .str _ _⟩
 | _, _, _, .sg c es fs, e => by obtain ⟨⟨t, rfl⟩, _⟩ := e; exact ⟨.str (by rw [sgS_len, sizeLine_eq]; lia), .str _ _⟩
 | _, _, _, .dat d, e => by
  obtain ⟨_, f, r⟩ := e
  exact ⟨f, r.mono fun p hp => List.mem_append_right _ hp⟩
 | _, _, _, .list hi hl fl, e => by
  rcases X _ _ hi with q | ⟨a, dd, ps, h2, h3, h4⟩
  ·cases q
  obtain ⟨p, hp, rfl⟩ := e
  rw [h2] at hp; cases hp
  obtain ⟨vs, n, D, rfl⟩ := h3.inv
  ·obtain ⟨f, r⟩ := FrzL.rdAt X fl D
   exact ⟨.list (by rw [fl.length]; exact hl) f, .list (.inr (List.mem_append_left _ (h4 _ (.head _)))) rfl rfl (by simpa using r)⟩
 | _, _, _, .tup hi hl fl, e => by
  rcases X _ _ hi with q | ⟨a, dd, ps, h2, h3, h4⟩
  ·cases q
  obtain ⟨p, hp, rfl⟩ := e
  rw [h2] at hp; cases hp
  obtain ⟨vs, n, D, rfl⟩ := h3.inv
  ·obtain ⟨f, r⟩ := FrzL.rdAt X fl D
   exact ⟨.tuple (by rw [fl.length]; exact hl) f, .tuple (.inr (List.mem_append_left _ (h4 _ (.head _)))) rfl rfl (by simpa using r)⟩
theorem FrzL.rdAt {P : Params} {B : Heap} {G : Wd} {led : List SO} {S : List (Addr × Obj)} (X : LedAt P B G led S) : ∀ {xs : List SV} {ds : List PyData} {vs : List Value}, FrzL led xs ds → DenL B G xs vs → (∀ d ∈ ds, Fits d) ∧ RdL B (S ++ G.fz) vs ds
 | _, _, _, .nil, .nil => ⟨(fun _ h => by cases h), .nil⟩
 | _, _, _, .cons f fl, .cons d dl => by
  obtain ⟨a1, r⟩ := Frz.rdAt X f d
  obtain ⟨b1, q⟩ := FrzL.rdAt X fl dl
  exact ⟨fun x hx => by
   rcases List.mem_cons.mp hx with rfl | hx
   ·exact a1
   ·exact b1 x hx, .cons r q⟩
end
noncomputable def plainSV (x : SV) : Prop := match x with
 | .obj _ => False
 | _ => True
end
section
variable {w : World} {C : Cf} {F : Fm} {s : Shared}
noncomputable def mask (n : Nat) (led : List SO) : List SO := List.replicate n .gone ++ led.drop n
inductive SvT (n : Nat) (led : List SO) : SV → SV → Prop
 | keep {i : Nat} : i < n → SvT n led (.obj i) (.obj i)
 | same {x : SV} : plainSV x → SvT n led x x
 | un (c es fs) : SvT n led (.sg c es fs) (.str (sgS c))
 | frz {i : Nat} {d : PyData} : Frz (mask n led) (.obj i) d → SvT n led (.obj i) (svOf d)
inductive SvsT (n : Nat) (led : List SO) : List SV → List SV → Prop
 | nil : SvsT n led [] []
 | cons {x y : SV} {xs ys : List SV} : SvT n led x y → SvsT n led xs ys → SvsT n led (x :: xs) (y :: ys)
inductive FldT (n : Nat) (led : List SO) : List (Str × SV) → List (Str × SV) → Prop
 | nil : FldT n led [] []
 | cons {a : Str} {x y : SV} {xs ys : List (Str × SV)} : SvT n led x y → FldT n led xs ys → FldT n led ((a, x) :: xs) ((a, y) :: ys)
inductive SoT (n : Nat) (led : List SO) : SO → SO → Prop
 | inst {c : Addr} {fs gs : List (Str × SV)} : FldT n led fs gs → SoT n led (.inst c fs) (.inst c gs)
 | raw {o : Obj} : SoT n led (.raw o) (.raw o)
 | list {xs ys : List SV} : SvsT n led xs ys → SoT n led (.list xs) (.list ys)
 | tup {xs ys : List SV} : SvsT n led xs ys → SoT n led (.tup xs) (.tup ys)
 | cell {x y : SV} : SvT n led x y → SoT n led (.cell (some x)) (.cell (some y))
 | cell0 : SoT n led (.cell none) (.cell none)
 | dic {fs gs : List (Str × SV)} : FldT n led fs gs → SoT n led (.dic fs) (.dic gs)
 | it {b : Bool} {x y : SV} {j : Nat} : SvT n led x y → SoT n led (.it b x j) (.it b y j)
 | itr {m j : Nat} : SoT n led (.itr m j) (.itr m j)
 | rng {m : Nat} : SoT n led (.rng m) (.rng m)
 | gone : SoT n led .gone .gone
 | tab {p : Addr} : SoT n led (.tab p) (.tab p)
 | drop {x : SO} : SoT n led x .gone
inductive SosT (n : Nat) (led : List SO) : List SO → List SO → Prop
 | nil : SosT n led [] []
 | cons {x y : SO} {xs ys : List SO} : SoT n led x y → SosT n led xs ys → SosT n led (x :: xs) (y :: ys)
structure Trim (n : Nat) (st st' : St) : Prop where
 loc : ∀ x y, lk x st'.loc = some y → ∃ z, lk x st.loc = some z ∧ SvT n st.led z y
 led : SosT n st.led (st.led.take n) st'.led
theorem led_split {P : Params} {B : Heap} {G : Wd} : ∀ {a1 a2 : List (Addr × Addr)} {l1 l2 : List SO} {news : List (Addr × Obj)}, l1.length = a1.length → LedR P B G (a1 ++ a2) (l1 ++ l2) news → ∃ n1 n2, news = n1 ++ n2 ∧ LedR P B G a1 l1 n1 ∧ LedR P B G a2 l2 n2 := by
 intro a1 a2 l1 l2 news
 induction a1 generalizing l1 news with
 | nil =>
  intro h r
  cases l1 with
  | nil => exact ⟨[], news, rfl, .nil, r⟩
  | cons => cases h
 | cons p a1 ih =>
  intro h r
  cases l1 with
  | nil => cases h
  | cons so l1 =>
   cases r with
   | cons one r =>
    obtain ⟨n1, n2, e, r1, r2⟩ := ih (Nat.succ.inj h) r
    exact ⟨_ ++ n1, n2, by rw [e, List.append_assoc], .cons one r1, r2⟩
theorem svT_den {P : Params} {B : Heap} {W more : Wd} {led : List SO} {S : List (Addr × Obj)} (X : LedAt P B (W ++ more) (mask W.ads.length led) S) {x y : SV} {v : Value} (t : SvT W.ads.length led x y) (d : Den B (W ++ more) x v) : Den B (W ++ (⟨[], more.fz ++ S⟩ : Wd)) y v := by
 have sub : ∀ p ∈ (W ++ more).fz, p ∈ (W ++ (⟨[], more.fz ++ S⟩ : Wd)).fz := fun p hp => by
  rw [Wd.fz_append] at hp ⊢
  rcases List.mem_append.mp hp with q | q
  ·exact List.mem_append_left _ q
  ·exact List.mem_append_right _ (List.mem_append_left _ q)
 cases t with
 | keep hi =>
  obtain ⟨p, hp, e⟩ := d
  refine ⟨p, ?_, e⟩
  rw [Wd.ads_append] at hp ⊢
  rw [List.getElem?_append_left hi] at hp ⊢
  exact hp
 | same hp =>
  cases x with
  | obj i => exact hp.elim
  | dat dd =>
   obtain ⟨e, f, r⟩ := d
   exact ⟨e, f, r.mono sub⟩
  | _ => exact d
 | un c es fs => exact ⟨d.1, by rw [sgS_len, sizeLine_eq]; lia⟩
 | frz f =>
  obtain ⟨ft, r⟩ := Frz.rdAt X f d
  refine den_rd ft (r.mono fun p hp => ?_)
  rw [Wd.fz_append]
  show p ∈ W.fz ++ (more.fz ++ S)
  rcases List.mem_append.mp hp with q | q
  ·exact List.mem_append_right _ (List.mem_append_right _ q)
  ·exact sub p q
theorem svsT_den {P : Params} {B : Heap} {W more : Wd} {led : List SO} {S : List (Addr × Obj)} (X : LedAt P B (W ++ more) (mask W.ads.length led) S) : ∀ {xs ys : List SV} {vs : List Value}, SvsT W.ads.length led xs ys → DenL B (W ++ more) xs vs → DenL B (W ++ (⟨[], more.fz ++ S⟩ : Wd)) ys vs := by
 intro xs ys vs t
 induction t generalizing vs with
 | nil => intro d; cases d; exact .nil
 | cons t _ ih => intro d; cases d with | cons d dr => exact .cons (svT_den X t d) (ih dr)
theorem fldT_den {P : Params} {B : Heap} {W more : Wd} {led : List SO} {S : List (Addr × Obj)} (X : LedAt P B (W ++ more) (mask W.ads.length led) S) : ∀ {fs gs : List (Str × SV)} {es : List DictEntry}, FldT W.ads.length led fs gs → EntR P B (W ++ more) es fs → EntR P B (W ++ (⟨[], more.fz ++ S⟩ : Wd)) es gs := by
 intro fs gs es t
 induction t generalizing es with
 | nil => intro d; cases d; exact .nil
 | cons t _ ih => intro d; cases d with | cons d dr => exact .cons (svT_den X t d) (ih dr)
theorem fldT_kv {P : Params} {B : Heap} {W more : Wd} {led : List SO} {S : List (Addr × Obj)} (X : LedAt P B (W ++ more) (mask W.ads.length led) S) : ∀ {fs gs : List (Str × SV)} {kvs : List (Str × Value)}, FldT W.ads.length led fs gs → KvR B (W ++ more) fs kvs → KvR B (W ++ (⟨[], more.fz ++ S⟩ : Wd)) gs kvs := by
 intro fs gs kvs t
 induction t generalizing kvs with
 | nil => intro d; cases d; exact .nil
 | cons t _ ih => intro d; cases d with | cons d dr => exact .cons (svT_den X t d) (ih dr)
theorem soT_one {P : Params} {B : Heap} {W more : Wd} {led : List SO} {S : List (Addr × Obj)} (X : LedAt P B (W ++ more) (mask W.ads.length led) S) {x y : SO} {a d : Addr} {ps : List (Addr × Obj)} (t : SoT W.ads.length led x y) (o : One P B (W ++ more) x a d ps) : ∃ qs, List.Sublist qs ps ∧ One P B (W ++ (⟨[], more.fz ++ S⟩ : Wd)) y a d qs := by
 cases t with
 | inst f => obtain ⟨_, _, e, rfl⟩ := o.inv; exact ⟨_, List.Sublist.refl _, .inst (fldT_den X f e)⟩
 | raw => obtain rfl := o.inv; exact ⟨_, List.Sublist.refl _, .raw⟩
 | list f => obtain ⟨_, _, e, rfl⟩ := o.inv; exact ⟨_, List.Sublist.refl _, .list (svsT_den X f e)⟩
 | tup f => obtain ⟨_, _, e, rfl⟩ := o.inv; exact ⟨_, List.Sublist.refl _, .tup (svsT_den X f e)⟩
 | cell f => obtain ⟨_, rfl, _, e, d⟩ := o.inv; exact ⟨_, List.Sublist.refl _, .cell e (svT_den X f d)⟩
 | cell0 => obtain ⟨_, rfl, e⟩ := o.inv; exact ⟨_, List.Sublist.refl _, .cell0 e⟩
 | dic f => obtain ⟨_, _, e, g, rfl⟩ := o.inv; exact ⟨_, List.Sublist.refl _, .dic e (fldT_kv X f g)⟩
 | it f => obtain ⟨_, _, e, d, rfl⟩ := o.inv; exact ⟨_, List.Sublist.refl _, .it e (svT_den X f d)⟩
 | itr => obtain rfl := o.inv; exact ⟨_, List.Sublist.refl _, .itr⟩
 | rng => obtain ⟨_, _, _, e, rfl⟩ := o.inv; exact ⟨_, List.Sublist.refl _, .rng e⟩
 | tab => exact ⟨_, List.Sublist.refl _, by obtain ⟨rfl, _, e, rfl⟩ := o.inv; exact .tab e⟩
 | gone => obtain rfl := o.inv; exact ⟨_, List.Sublist.refl _, .gone⟩
 | drop => exact ⟨[], List.nil_sublist _, .gone⟩
theorem sosT_led {P : Params} {B : Heap} {W more : Wd} {led : List SO} {S : List (Addr × Obj)} (X : LedAt P B (W ++ more) (mask W.ads.length led) S) : ∀ {xs ys : List SO} {as : List (Addr × Addr)} {news : List (Addr × Obj)}, SosT W.ads.length led xs ys → LedR P B (W ++ more) as xs news → ∃ qs, List.Sublist qs news ∧ LedR P B (W ++ (⟨[], more.fz ++ S⟩ : Wd)) as ys qs := by
 intro xs ys as news t
 induction t generalizing as news with
 | nil => intro l; cases l; exact ⟨[], List.Sublist.refl _, .nil⟩
 | cons t _ ih =>
  intro l
  cases l with
  | cons o l =>
   obtain ⟨q1, s1, o1⟩ := soT_one X t o
   obtain ⟨q2, s2, o2⟩ := ih l
   exact ⟨q1 ++ q2, s1.append s2, .cons o1 o2⟩
theorem rep_trimV {W more : Wd} {st st' : St} {h : Heap} (ok : FmOk C F) (R : Rep w F (W ++ more) st h) (T : Trim W.ads.length st st') : ∃ z, Rep w F (W ++ (⟨[], z⟩ : Wd)) st' h ∧ ∀ x y v, SvT W.ads.length st.led x y → Den F.B (W ++ more) x v → Den F.B (W ++ (⟨[], z⟩ : Wd)) y v := by
 obtain ⟨m, news, lw, X⟩ := R
 have hlen : st.led.length = W.ads.length + more.ads.length := by
  have := X.led.length
  rw [Wd.ads_append, List.length_append] at this
  exact this
 have XL := X.led
 rw [Wd.ads_append, ← List.take_append_drop W.ads.length st.led] at XL
 obtain ⟨n1, n2, e, r1, r2⟩ := led_split (by rw [List.length_take]; lia) XL
 subst e
 have at2 : LedAt w.params F.B (W ++ more) (mask W.ads.length st.led) n2 := by
  intro i so hi
  unfold mask at hi
  by_cases hlt : i < W.ads.length
  ·rw [List.getElem?_append_left (by rw [List.length_replicate]; exact hlt), List.getElem?_replicate, if_pos hlt] at hi
   cases hi; exact .inl rfl
  ·rw [List.getElem?_append_right (by rw [List.length_replicate]; lia), List.length_replicate] at hi
   obtain ⟨a, d, ps, h1, h2, h3⟩ := r2.atI hi
   refine .inr ⟨a, d, ps, ?_, h2, h3⟩
   rw [Wd.ads_append, List.getElem?_append_right (by lia)]
   exact h1
 have pm : (n1 ++ n2 ++ ((W ++ more).fz ++ lw)).Perm (n1 ++ ((W ++ (⟨[], more.fz ++ n2⟩ : Wd)).fz ++ lw)) := by
  show (n1 ++ n2 ++ ((W.fz ++ more.fz) ++ lw)).Perm (n1 ++ ((W.fz ++ (more.fz ++ n2)) ++ lw))
  rw [List.append_assoc, ← List.append_assoc W.fz, ← List.append_assoc n2]
  exact List.Perm.append_left n1 (List.Perm.append_right lw List.perm_append_comm)
 obtain ⟨qs, sub, lq⟩ := sosT_led at2 T.led r1
 have sub2 : List.Sublist (qs ++ ((W ++ (⟨[], more.fz ++ n2⟩ : Wd)).fz ++ lw)) (n1 ++ ((W ++ (⟨[], more.fz ++ n2⟩ : Wd)).fz ++ lw)) := sub.append (List.Sublist.refl _)
 refine ⟨more.fz ++ n2, ⟨m, qs, lw, X.fr, fun p hp => X.nw p (pm.mem_iff.mpr (sub2.subset hp)), ?_, ?_, ?_, X.ups⟩, fun x y v t d => svT_den at2 t d⟩
 ·intro x y hx
  obtain ⟨z, h1, h2⟩ := T.loc x y hx
  obtain ⟨v, e1, e2⟩ := X.loc x z h1
  exact ⟨v, e1, svT_den at2 h2 e2⟩
 ·have : (W ++ (⟨[], more.fz ++ n2⟩ : Wd)).ads = W.ads := List.append_nil _
  rw [this]
  exact lq
 ·exact (sub2.map (·.1)).nodup ((pm.map (·.1)).nodup_iff.mp X.nd)
theorem rep_trim {W more : Wd} {st st' : St} {h : Heap} (ok : FmOk C F) (R : Rep w F (W ++ more) st h) (T : Trim W.ads.length st st') : ∃ z, Rep w F (W ++ (⟨[], z⟩ : Wd)) st' h :=
 let ⟨z, r, _⟩ := rep_trimV ok R T; ⟨z, r⟩
theorem lk_append {α : Type} {x : Str} {y : α} : ∀ {l m : List (Str × α)}, lk x l = some y → lk x (l ++ m) = some y
 | (z, a) :: r, m, h => by
  show lk x ((z, a) :: (r ++ m)) = _
  unfold lk at h ⊢
  cases q : Fast.sEq x z with
  | true => rw [q] at h; exact h
  | false => rw [q] at h; exact lk_append h
noncomputable def okV (n : Nat) (v : SV) : Prop := match v with
 | .obj i => i < n
 | _ => True
noncomputable def okF (n : Nat) : List (Str × SV) → Prop
 | [] => True
 | (_, v) :: r => okV n v ∧ okF n r
theorem okV_of {n : Nat} {v : SV} (h : plainSV v) : okV n v := by
 cases v with
 | obj i => exact h.elim
 | _ => trivial
theorem svT_refl {n : Nat} {led : List SO} {v : SV} (h : okV n v) : SvT n led v v := by
 cases v with
 | obj i => exact .keep h
 | _ => exact .same trivial
theorem fldT_refl {n : Nat} {led : List SO} : ∀ {fs : List (Str × SV)}, okF n fs → FldT n led fs fs
 | [], _ => .nil
 | (_, _) :: _, h => .cons (svT_refl h.1) (fldT_refl h.2)
theorem okF_mem {n : Nat} : ∀ {fs : List (Str × SV)}, okF n fs → ∀ z ∈ fs, okV n z.2 := by
 intro fs
 induction fs with
 | nil => intro _ z hz; cases hz
 | cons p r ih =>
  intro h z hz
  rcases List.mem_cons.mp hz with rfl | hz
  ·exact h.1
  ·exact ih h.2 z hz
end
noncomputable abbrev srcO (v : SV) (o : Option SO) : Option (List SV × (Nat → SO)) := match o with
 | none => none
 | some x => match x with
  | .list xs => some (xs, .it true v)
  | .tup xs => some (xs, .it false v)
  | .rng n => some ((List.range n).map fun (j : Nat) => SV.int (j : Int), .itr n)
  | _ => none
noncomputable def srcT (st : St) (v : SV) : Option (List SV × (Nat → SO)) := match v with
 | .str s => some (s.cps.toList.map fun c => .str (sgS c), .it true (.str s))
 | .obj i => srcO (.obj i) st.led[i]?
 | .dat d => match d with
  | .list ds => some (ds.map svOf, .it true (.dat (.list ds)))
  | .tuple ds => some (ds.map svOf, .it false (.dat (.tuple ds)))
  | _ => none
 | _ => none
inductive SrcK (st : St) : SV → List SV → (Nat → SO) → Prop
 | str (s : Str) : SrcK st (.str s) (s.cps.toList.map fun c => .str (sgS c)) (.it true (.str s))
 | seq {v : SV} {b : Bool} {xs : List SV} : seqOf st v = some (b, xs) → SrcK st v xs (.it b v)
 | rng {i n : Nat} : st.led[i]? = some (.rng n) → SrcK st (.obj i) ((List.range n).map fun (j : Nat) => SV.int (j : Int)) (.itr n)
theorem srcT_kind {st : St} {v : SV} {all : List SV} {slot : Nat → SO} (h : srcT st v = some (all, slot)) : SrcK st v all slot := by
 cases v <;> first | exact no_some h | skip
 ·cases h; exact .str _
 ·rename_i i
  replace h : srcO (.obj i) st.led[i]? = some (all, slot) := h
  cases hi : st.led[i]? with
  | none => rw [hi] at h; exact no_some h
  | some x =>
   rw [hi] at h
   cases x <;> first | exact no_some h | skip
   ·cases h
    exact .seq (congrArg seqO hi)
   ·cases h
    exact .seq (congrArg seqO hi)
   ·cases h
    exact .rng hi
 ·rename_i d
  cases d <;> first | exact no_some h | skip
  ·cases h; exact .seq rfl
  ·cases h; exact .seq rfl
section
variable {w : World} {C : Cf} {F : Fm} {ads : Wd} {s : Shared} {st : St} {A : Around} {E : Value → Shared → Prop}
theorem led_len' {h : Heap} (R : Rep w F ads st h) : st.led.length = ads.ads.length := let ⟨_, _, _, X⟩ := R; X.led.length
theorem rep_it {h : Heap} {p j : Nat} {I : Addr} {b : Bool} {src : SV} (R : Rep w F ads st h) (dI : Den F.B ads (.obj p) (.ref I)) (hp : st.led[p]? = some (.it b src j)) :
  ∃ o u, h.get? I = some o ∧ ItObj b o u j ∧ Den F.B ads src u ∧
   (∀ h' o' j', h'.get? I = some o' → ItObj b o' u j' → (∀ c, c ≠ I → ∀ q, h.get? c = some q → h'.get? c = some q) → Rep w F ads { st with led := st.led.set p (.it b src j') } h') ∧
   ∀ h', (∀ c, c ≠ I → ∀ q, h.get? c = some q → h'.get? c = some q) → Rep w F ads { st with led := st.led.set p .gone } h' := by
 obtain ⟨m, news, lw, pre, ps, post, a, dd, X, h1, h2, h3, h4⟩ := rep_at R hp
 obtain ⟨q, hq, e⟩ := dI
 rw [h2] at hq
 obtain rfl := Option.some.inj hq
 obtain rfl : I = a := by cases e; rfl
 obtain ⟨o, u, hit, dv, rfl⟩ := h3.inv
 exact ⟨o, u, (X.nw (I, o) (by rw [h1]; simp)).1, hit, dv, fun h' o' j' e1 e2 hs => rep_set1 X h1 (h4 _ _ (One.it e2 dv)) e1 hs, fun h' hs => rep_drop1 X h1 (h4 _ _ One.gone) hs⟩
theorem rep_itr {h : Heap} {p j n : Nat} {I : Addr} (R : Rep w F ads st h) (dI : Den F.B ads (.obj p) (.ref I)) (hp : st.led[p]? = some (.itr n j)) :
  h.get? I = some (rngItO n j) ∧
   (∀ h' j', h'.get? I = some (rngItO n j') → (∀ c, c ≠ I → ∀ q, h.get? c = some q → h'.get? c = some q) → Rep w F ads { st with led := st.led.set p (.itr n j') } h') ∧
   ∀ h', (∀ c, c ≠ I → ∀ q, h.get? c = some q → h'.get? c = some q) → Rep w F ads { st with led := st.led.set p .gone } h' := by
 obtain ⟨m, news, lw, pre, ps, post, a, dd, X, h1, h2, h3, h4⟩ := rep_at R hp
 obtain ⟨q, hq, e⟩ := dI
 rw [h2] at hq
 obtain rfl := Option.some.inj hq
 obtain rfl : I = a := by cases e; rfl
 obtain rfl := h3.inv
 exact ⟨(X.nw (I, rngItO n j) (by rw [h1]; simp)).1, fun h' j' e1 hs => rep_set1 X h1 (h4 _ _ One.itr) e1 hs, fun h' hs => rep_drop1 X h1 (h4 _ _ One.gone) hs⟩
theorem iter_start {v : SV} {u : Value} {all : List SV} {slot : Nat → SO} {Q : Value → Shared → Prop} (ok : FmOk C F) (R : Rep w F ads st s.heap) (d : Den F.B ads v u) (hs : srcT st v = some (all, slot))
  (hQ : ∀ s', Rep w F (ads ++ .one s.heap.objs.size 0) { st with led := st.led ++ [slot 0] } s'.heap → Nx F s s' → Q (.ref s.heap.objs.size) s') : wpAny (model prog w) A (pyIter u) Q E s := by
 cases srcT_kind hs with
 | str x =>
  obtain ⟨⟨t, rfl⟩, l⟩ := d
  refine wpAny_pyIter_strU (hQ _ (rep_push rfl R (.it (v := .str x t) ⟨rfl, rfl⟩ ⟨⟨t, rfl⟩, l⟩)) (Nx.of_gens rfl rfl rfl))
 | seq hq =>
  rename_i b
  obtain ⟨a, vs, rfl, hsq, D⟩ := seq_sound ok R d hq
  cases b with
  | true => exact wpAny_pyIter_list hsq (hQ _ (rep_push rfl R (.it (v := .ref a) ⟨rfl, rfl⟩ d.mono)) (Nx.of_gens rfl rfl rfl))
  | false => exact wpAny_pyIter_tuple hsq (hQ _ (rep_push rfl R (.it (v := .ref a) ⟨rfl, rfl⟩ d.mono)) (Nx.of_gens rfl rfl rfl))
 | rng hi =>
  rename_i i n
  obtain ⟨m, news, lw, pre, ps, post, a, dd, X, h1, h2, h3, h4⟩ := rep_at R hi
  obtain ⟨p, hp, rfl⟩ := d
  rw [h2] at hp; cases hp
  obtain ⟨t, u, v, hn, rfl⟩ := h3.inv
  ·rw [sizeLine_eq] at hn
   have hr : IsRange s.heap a 0 n 1 t u v := (X.nw (a, rngO n t u v) (by rw [h1]; simp)).1
   have sz : Builtin.Range.rangeSize 0 n 1 = (n : Int) := by rw [rangeSize_nat]; lia
   refine wpAny_pyIter_range hr (small_one (by lia) (by lia) (by lia) (by lia)) ?_
   rw [sz]
   refine hQ _ (rep_push rfl ⟨m, news, lw, X⟩ ?_) (Nx.of_gens rfl rfl rfl)
   have := One.itr (P := w.params) (B := F.B) (G := ads ++ .one s.heap.objs.size 0) (a := s.heap.objs.size) (d := 0) (n := n) (j := 0)
   simpa [rngItO] using this
theorem iter_next {v x : SV} {p j : Nat} {I : Addr} {all : List SV} {slot : Nat → SO} {Q : Option Value → Shared → Prop} (ok : FmOk C F) (R : Rep w F ads st s.heap) (dI : Den F.B ads (.obj p) (.ref I)) (hp : st.led[p]? = some (slot j)) (hs : srcT st v = some (all, slot)) (hx : all[j]? = some x)
  (hQ : ∀ s' u, Rep w F ads { st with led := st.led.set p (slot (j + 1)) } s'.heap → Nx F s s' → Den F.B ads x u → Q (some u) s') : wpAny (model prog w) A (pyNext (.ref I)) Q E s := by
 have R0 := R
 cases srcT_kind hs with
 | str y =>
  obtain ⟨o, u, ho, hit, dv, upd, drop⟩ := rep_it R dI hp
  ·obtain ⟨⟨t, rfl⟩, l⟩ := dv
   obtain ⟨c1, c2⟩ := hit
   rw [List.getElem?_map, Option.map_eq_some_iff] at hx
   obtain ⟨c, hc, rfl⟩ := hx
   have hc' : y.cps[j]? = some c := by simpa using hc
   have fin : ∀ h', h'.IsStrIter I (strIterType y) y t (j + 1) → Heap.SameBut I s.heap h' → Q (some (.str ⟨#[c]⟩ s.toks)) { s with heap := h', toks := s.toks + 1 } := fun h' hi' hs' => by
    obtain ⟨o', e1, e2, e3⟩ := hi'
    exact hQ _ _ (upd _ _ _ e1 ⟨e2, e3⟩ fun b hb o q => (hs'.2 b hb).trans q) (Nx.of_gens rfl rfl rfl) ⟨⟨_, rfl⟩, by rw [sgS_len, sizeLine_eq]; lia⟩
   by_cases ha : y.cps.all (· < 128) = true
   ·have et : strIterType y = "str_ascii_iterator" := by unfold strIterType; rw [ha]; rfl
    rw [et] at c1 fin
    exact wpAny_pyNext_ascii_item ⟨o, ho, c1, c2⟩ hc' fin
   ·have et : strIterType y = "str_iterator" := by unfold strIterType; rw [Bool.not_eq_true] at ha; rw [ha]; rfl
    rw [et] at c1 fin
    exact wpAny_pyNext_wide_item ⟨o, ho, c1, c2⟩ hc' fin
 | seq hq =>
  rename_i b
  obtain ⟨o, u, ho, hit, dv, upd, drop⟩ := rep_it R dI hp
  ·obtain ⟨l, vs, rfl, hsq, D⟩ := seq_sound ok R0 dv hq
   obtain ⟨c1, c2⟩ := hit
   obtain ⟨y, hy, dy⟩ := D.get hx
   cases b with
   | true =>
    refine wpAny_pyNext_list_item ⟨o, ho, c1, c2⟩ hsq (by simpa using hy) fun h' hi' hs' => ?_
    obtain ⟨o', e1, e2, e3⟩ := hi'
    exact hQ _ _ (upd _ _ _ e1 ⟨e2, e3⟩ fun b hb o q => (hs'.2 b hb).trans q) (Nx.of_gens rfl rfl rfl) dy
   | false =>
    refine wpAny_pyNext_tuple_item ⟨o, ho, c1, c2⟩ hsq (by simpa using hy) fun h' hi' hs' => ?_
    obtain ⟨o', e1, e2, e3⟩ := hi'
    exact hQ _ _ (upd _ _ _ e1 ⟨e2, e3⟩ fun b hb o q => (hs'.2 b hb).trans q) (Nx.of_gens rfl rfl rfl) dy
 | rng hi =>
  rename_i i n
  obtain ⟨ho', upd, drop⟩ := rep_itr R dI hp
  ·have ho : IsRangeIter s.heap I j ((n : Int) - j) 1 := ho'
   rw [List.getElem?_map, Option.map_eq_some_iff] at hx
   obtain ⟨c, hc, rfl⟩ := hx
   have hjn : j < n := by
    rw [List.getElem?_eq_some_iff] at hc
    obtain ⟨h, _⟩ := hc
    simpa using h
   have hcj : c = j := by
    rw [List.getElem?_eq_some_iff] at hc
    obtain ⟨h, e⟩ := hc
    simpa using e.symm
   subst hcj
   refine wpAny_pyNext_range_item ho (by lia) fun h' hi' hs' => ?_
   have e1 : h'.get? I = some (rngItO n (c + 1)) := by
    have := hi'
    unfold rngItO
    rw [show ((c + 1 : Nat) : Int) = (c : Int) + 1 by lia, show (n : Int) - ((c : Int) + 1) = (n : Int) - c - 1 by lia]
    exact this
   exact hQ _ _ (upd _ _ e1 fun b hb o q => (hs'.2 b hb).trans q) (Nx.of_gens rfl rfl rfl) ⟨_, rfl⟩
theorem iter_done {v : SV} {p j : Nat} {I : Addr} {all : List SV} {slot : Nat → SO} {Q : Option Value → Shared → Prop} (hh : A.handled = none) (ok : FmOk C F) (R : Rep w F ads st s.heap) (dI : Den F.B ads (.obj p) (.ref I)) (hp : st.led[p]? = some (slot j)) (hs : srcT st v = some (all, slot)) (hx : all[j]? = none)
  (hQ : ∀ s', Rep w F ads { st with led := st.led.set p .gone } s'.heap → Nx F s s' → Q none s') : wpAny (model prog w) A (pyNext (.ref I)) Q E s := by
 have R0 := R
 cases srcT_kind hs with
 | str y =>
  obtain ⟨o, u, ho, hit, dv, upd, drop⟩ := rep_it R dI hp
  ·obtain ⟨⟨t, rfl⟩, l⟩ := dv
   obtain ⟨c1, c2⟩ := hit
   have hc' : y.cps[j]? = none := by simpa using hx
   have fin : ∀ h', Heap.ExtBut I s.heap h' → Q none { s with heap := h' } := fun h' hs' =>
    hQ _ (drop _ fun b hb o q => hs' b o hb q) (Nx.of_gens rfl rfl rfl)
   by_cases ha : y.cps.all (· < 128) = true
   ·have et : strIterType y = "str_ascii_iterator" := by unfold strIterType; rw [ha]; rfl
    rw [et] at c1
    exact wpAny_pyNext_ascii_end hh ⟨o, ho, c1, c2⟩ hc' fin
   ·have et : strIterType y = "str_iterator" := by unfold strIterType; rw [Bool.not_eq_true] at ha; rw [ha]; rfl
    rw [et] at c1
    exact wpAny_pyNext_wide_end hh ⟨o, ho, c1, c2⟩ hc' fin
 | seq hq =>
  rename_i b
  obtain ⟨o, u, ho, hit, dv, upd, drop⟩ := rep_it R dI hp
  ·obtain ⟨l, vs, rfl, hsq, D⟩ := seq_sound ok R0 dv hq
   obtain ⟨c1, c2⟩ := hit
   have hy : vs.toArray[j]? = none := by
    have := D.length
    rw [List.getElem?_eq_none_iff] at hx
    simp; lia
   have fin : ∀ h', Heap.ExtBut I s.heap h' → Q none { s with heap := h' } := fun h' hs' =>
    hQ _ (drop _ fun b hb o q => hs' b o hb q) (Nx.of_gens rfl rfl rfl)
   cases b with
   | true => exact wpAny_pyNext_list_end hh ⟨o, ho, c1, c2⟩ hsq hy fin
   | false => exact wpAny_pyNext_tuple_end hh ⟨o, ho, c1, c2⟩ hsq hy fin
 | rng hi =>
  rename_i i n
  obtain ⟨ho', upd, drop⟩ := rep_itr R dI hp
  ·have ho : IsRangeIter s.heap I j ((n : Int) - j) 1 := ho'
   have hjn : n ≤ j := by
    rw [List.getElem?_eq_none_iff] at hx
    simpa using hx
   exact wpAny_pyNext_range_end hh ho (by lia) fun h' hs' => hQ _ (drop _ fun b hb o q => hs' b o hb q) (Nx.of_gens rfl rfl rfl)
theorem iter_again {v : SV} {p j : Nat} {I : Addr} {all : List SV} {slot : Nat → SO} {Q : Value → Shared → Prop} (ok : FmOk C F) (R : Rep w F ads st s.heap) (dI : Den F.B ads (.obj p) (.ref I)) (hp : st.led[p]? = some (slot j)) (hs : srcT st v = some (all, slot)) (hQ : Q (.ref I) s) : wpAny (model prog w) A (pyIter (.ref I)) Q E s := by
 have R0 := R
 cases srcT_kind hs with
 | str y =>
  obtain ⟨o, u, ho, hit, dv, upd, drop⟩ := rep_it R dI hp
  ·obtain ⟨⟨t, rfl⟩, l⟩ := dv
   obtain ⟨c1, c2⟩ := hit
   by_cases ha : y.cps.all (· < 128) = true
   ·have et : strIterType y = "str_ascii_iterator" := by unfold strIterType; rw [ha]; rfl
    rw [et] at c1
    exact wpAny_pyIter_striter_ascii ⟨o, ho, c1, c2⟩ hQ
   ·have et : strIterType y = "str_iterator" := by unfold strIterType; rw [Bool.not_eq_true] at ha; rw [ha]; rfl
    rw [et] at c1
    exact wpAny_pyIter_striter_wide ⟨o, ho, c1, c2⟩ hQ
 | seq hq =>
  rename_i b
  obtain ⟨o, u, ho, hit, dv, upd, drop⟩ := rep_it R dI hp
  ·obtain ⟨l, vs, rfl, hsq, D⟩ := seq_sound ok R0 dv hq
   obtain ⟨c1, c2⟩ := hit
   cases b with
   | true => exact wpAny_pyIter_listiter ⟨o, ho, c1, c2⟩ hQ
   | false => exact wpAny_pyIter_tupleiter ⟨o, ho, c1, c2⟩ hQ
 | rng hi =>
  rename_i i n
  obtain ⟨ho', upd, drop⟩ := rep_itr R dI hp
  ·have ho : IsRangeIter s.heap I j ((n : Int) - j) 1 := ho'
   exact wpAny_pyIter_rangeiter ho hQ
theorem letGo_plain {target : Expr} {it v : Value} {Q : Unit → Shared → Prop} (hv : ∀ a, v ≠ .ref a) (h : Q () s) : wpAny (model prog w) A (letOwnedTupleGo target it v) Q E s := by
 unfold letOwnedTupleGo
 cases target <;> first
  | exact wpAny_pure h
  | (cases v <;> first
    | exact absurd rfl (hv _)
    | (cases it <;> exact wpAny_pure h))
theorem iter_letGo {v x : SV} {p j : Nat} {I : Addr} {u : Value} {all : List SV} {slot : Nat → SO} {target : Expr} {Q : Unit → Shared → Prop} (ok : FmOk C F) (R : Rep w F ads st s.heap) (dI : Den F.B ads (.obj p) (.ref I)) (hp : st.led[p]? = some (slot j)) (hk : SrcK st v all slot) (hx : x ∈ all) (dx : Den F.B ads x u) (hQ : Q () s) : wpAny (model prog w) A (letOwnedTupleGo target (.ref I) u) Q E s := by
 cases hk with
 | str y =>
  obtain ⟨c, _, rfl⟩ := List.mem_map.mp hx
  obtain ⟨⟨t, rfl⟩, _⟩ := dx
  exact letGo_plain (fun a e => nomatch e) hQ
 | seq hq =>
  rename_i b
  obtain ⟨o, y, ho, hit, dv, upd, drop⟩ := rep_it R dI hp
  ·obtain ⟨l, vs, rfl, hsq, D⟩ := seq_sound ok R dv hq
   obtain ⟨c1, c2⟩ := hit
   cases b with
   | true => exact PyProof.Rows.letGo_listiter ⟨o, ho, c1, c2⟩ hQ
   | false => exact PyProof.Rows.letGo_tupleiter ⟨o, ho, c1, c2⟩ hQ
 | rng hi =>
  obtain ⟨c, _, rfl⟩ := List.mem_map.mp hx
  obtain ⟨t, rfl⟩ := dx
  exact letGo_plain (fun a e => nomatch e) hQ
end
noncomputable abbrev onOb (x : SV) (f : Nat → Prop) : Prop := match x with
 | .obj i => f i
 | _ => False
theorem onOb_some {x : SV} {f : Nat → Prop} (h : onOb x f) : ∃ s, x = .obj s ∧ f s := by
 cases x <;> first | exact ⟨_, rfl, h⟩ | exact h.elim
noncomputable abbrev locCel (o : Option NameKind) (p q : Prop) : Prop := match o with
 | none => False
 | some k => match k with
  | .local => p
  | .cell => q
  | _ => False
theorem locCel_some {o : Option NameKind} {p q : Prop} (h : locCel o p q) : (o = some .local ∧ p) ∨ (o = some .cell ∧ q) := by
 cases o with
 | none => exact h.elim
 | some x => cases x <;> first | exact .inl ⟨rfl, h⟩ | exact .inr ⟨rfl, h⟩ | exact h.elim
noncomputable def stT (ns : List (Str × NameKind)) (x : Str) (v : SV) (st : St) (k : St → Prop) : Prop := locCel (nmKind x ns) (k { st with loc := put x v st.loc }) (onOpt (lk x st.loc) fun y => onOb y fun i => onCel st.led[i]? fun _ => k { st with led := st.led.set i (.cell (some v)) })
noncomputable def bindsT (ns : List (Str × NameKind)) : List Expr → List SV → St → (St → Prop) → Prop
 | [], xs, st, k => match xs with
  | [] => k st
  | _ => False
 | e :: es, xs, st, k => match e with
  | .Name n _ => match xs with
   | x :: xs => stT ns n x st fun st' => bindsT ns es xs st' k
   | [] => False
  | _ => False
noncomputable def bindT (ns : List (Str × NameKind)) (tgt : Expr) (x : SV) (st : St) (k : St → Prop) : Prop := match tgt with
 | .Name n _ => stT ns n x st k
 | .Tuple elts _ _ => ∃ b xs, seqOf st x = some (b, xs) ∧ xs.length = elts.length ∧ bindsT ns elts xs st k
 | _ => False
noncomputable def forE (bnd : SV → St → (St → Prop) → Prop) (body : St → Kt → Prop) (v : SV) (all : List SV) (slot : Nat → SO) (p : Nat) : Nat → List SV → St → Kt → Prop
 | j, [], st, k => st.led[p]? = some (slot j) ∧ srcT st v = some (all, slot) ∧ k .next { st with led := st.led.set p .gone }
 | j, x :: xs, st, k => st.led[p]? = some (slot j) ∧ srcT st v = some (all, slot) ∧ bnd x { st with led := st.led.set p (slot (j + 1)) } fun st₁ => body st₁ fun r st₂ => match r with
  | .next => ∃ st₃, Trim st.led.length st₂ st₃ ∧ forE bnd body v all slot p (j + 1) xs st₃ k
  | .cont => ∃ st₃, Trim st.led.length st₂ st₃ ∧ forE bnd body v all slot p (j + 1) xs st₃ k
  | .ret y => k (.ret y) st₂
  | _ => False
noncomputable def testE (test : Option (St → Kt → Prop)) (st : St) (k : Bool → St → Prop) : Prop := match test with
 | none => k true st
 | some t => t st fun r st₁ => match r with
  | .b c => k c st₁
  | _ => False
noncomputable def appT (q : Nat) (y : SV) (st : St) (k : St → Prop) : Prop := onLst st.led[q]? fun ys => ys.length ≤ sizeLine ∧ k { st with led := st.led.set q (.list (ys ++ [y])) }
noncomputable def compE (bnd : SV → St → (St → Prop) → Prop) (test : Option (St → Kt → Prop)) (elt : St → Kt → Prop) (v : SV) (all : List SV) (slot : Nat → SO) (p q : Nat) : Nat → List SV → St → (St → Prop) → Prop
 | j, [], st, k => st.led[p]? = some (slot j) ∧ srcT st v = some (all, slot) ∧ k { st with led := st.led.set p .gone }
 | j, x :: xs, st, k => st.led[p]? = some (slot j) ∧ srcT st v = some (all, slot) ∧ bnd x { st with led := st.led.set p (slot (j + 1)) } fun st₁ => testE test st₁ fun c st₂ =>
   ifT c (elt st₂ fun r st₃ => match r with
    | .v y => appT q y st₃ fun st₄ => ∃ st₅, Trim st.led.length st₄ st₅ ∧ compE bnd test elt v all slot p q (j + 1) xs st₅ k
    | _ => False)
   (∃ st₅, Trim st.led.length st₂ st₅ ∧ compE bnd test elt v all slot p q (j + 1) xs st₅ k)
section
variable {w : World} {C : Cf} {F : Fm} {ads : Wd} {s : Shared} {st : St} {A : Around} {E : Value → Shared → Prop}
theorem draw_list {it l : Addr} {items : Array Value} (hne : l ≠ it) : ∀ (n i : Nat) (s : Shared) (Q : List Value → Shared → Prop), s.heap.IsListIter it l i → s.heap.IsList l items → i + n ≤ items.size →
  (∀ h', h'.IsListIter it l (i + n) → Heap.SameBut it s.heap h' → Q ((items.toList.drop i).take n) { s with heap := h' }) → wpAny (model prog w) A (draw (.ref it) n) Q E s
 | 0, i, s, Q, hit, _, _, hQ => by
  show wpAny _ _ (pure []) Q E s
  exact wpAny_pure (by simpa using hQ s.heap hit (Heap.SameBut.refl ..))
 | n + 1, i, s, Q, hit, ht, hle, hQ => by
  have hlt : i < items.size := by lia
  show wpAny _ _ (pyNext (.ref it) >>= _) Q E s
  refine wpAny_bind (wpAny_pyNext_list_item hit ht (x := items[i]) (by simp [hlt]) fun h₁ hit₁ hs₁ => ?_)
  refine wpAny_bind (wpAny_holding (draw_list hne n (i + 1) _ _ hit₁ (ht.extBut hs₁.extBut hne) (by lia) fun h₂ hit₂ hs₂ => wpAny_pure ?_))
  have hd : items.toList.drop i = items[i] :: items.toList.drop (i + 1) := by simp [List.drop_eq_getElem_cons, hlt]
  have := hQ h₂ (by rw [show i + (n + 1) = i + 1 + n by lia]; exact hit₂) (hs₁.trans hs₂)
  rw [hd, List.take_succ_cons] at this
  exact this
theorem unpackItems_list {t : Addr} {items : Array Value} {Q : List Value → Shared → Prop} (hh : A.handled = none) (ht : s.heap.IsList t items)
  (hQ : ∀ h', Heap.ExtBut s.heap.objs.size s.heap h' → Q items.toList { s with heap := h' }) : wpAny (model prog w) A (unpackItems (.ref t) items.size none) Q E s := by
 have hlt : t ≠ s.heap.objs.size := by obtain ⟨o, ho, _⟩ := ht; exact Nat.ne_of_lt (Heap.lt_size ho)
 unfold unpackItems
 refine wpAny_bind ?_
 ·unfold notIterableAtAll
  refine wpAny_bind (wpAny_specialOf ht.typeIs slot_list_iter.lookup ?_)
  refine wpAny_pure ?_
  simp only [Bool.false_eq_true, if_false]
  refine wpAny_bind (wpAny_holding (wpAny_pyIter_list ht ?_))
  refine wpAny_bind (wpAny_holding (draw_list hlt items.size 0 _ _ ⟨_, Heap.get?_push_size _ rfl, rfl, rfl⟩ (ht.push _) (by lia) fun h₁ hit₁ hs₁ => ?_))
  have hall : List.take items.size (List.drop 0 items.toList) = items.toList := by
   rw [List.drop_zero]; exact List.take_of_length_le (by simp)
  rw [hall]
  rw [if_neg (by simp)]
  have ht₁ : h₁.IsList t items := (ht.push _).extBut hs₁.extBut hlt
  refine wpAny_bind (wpAny_holding (wpAny_pyNext_list_end hh hit₁ ht₁ (by simp) fun h₂ he₂ => ?_))
  simp only [Option.isSome_none, Bool.false_eq_true, if_false]
  refine wpAny_pure (hQ h₂ fun b o hb e => he₂ b o hb (hs₁.extBut b o hb (Heap.get?_push_of_some _ e)))
theorem unpack_seq {b : Bool} {t : Addr} {vs : List Value} {targets : List (Bool × (Value → Sem Unit))} {Q : Unit → Shared → Prop} (hh : A.handled = none) (ht : SeqAt s.heap b t vs)
  (hn : targets.length = vs.length) (hstar : targets.findIdx? (·.1) = none)
  (h : ∀ h', Heap.ExtBut s.heap.objs.size s.heap h' → wpAny (model prog w) A (assignInOrder (targets.map (·.2)) vs) Q E { s with heap := h' }) :
  wpAny (model prog w) A (unpack (.ref t) targets) Q E s := by
 cases b with
 | true =>
  unfold unpack
  rw [hn, hstar, show vs.length = vs.toArray.size by simp]
  exact wpAny_bind (wpAny_holding (unpackItems_list hh ht (by simpa using h)))
 | false => exact unpack_tuple hh ht (by simpa using hn) hstar (by simpa using h)
theorem store_sound {x : Str} {v : SV} {u : Value} {k : St → Prop} {Q : Unit → Shared → Prop} (ok : FmOk C F) (R : Rep w F ads st s.heap) (d : Den F.B ads v u) (h : stT F.sc.names x v st k)
  (hQ : ∀ st' s', k st' → Rep w F ads st' s'.heap → Nx F s s' → Q () s') : wpAny (model prog w) F.A (storeName F.env x u) Q E s := by
 rcases locCel_some h with ⟨hk, h⟩ | ⟨hk, h⟩
 ·rw [nmKind_eq] at hk
  exact rep_store ok R d hk fun h' t R' => hQ _ _ h R' (Nx.mk' s h' t)
 ·rw [nmKind_eq] at hk
  obtain ⟨y, hi, h⟩ := onOpt_some h
  obtain ⟨i, rfl, h⟩ := onOb_some h
  obtain ⟨old, ho, h⟩ := onCel_some h
  exact rep_cell_set ok R hk hi ho d fun h' R' => hQ _ _ h R' (Nx.of_gens rfl rfl rfl)
theorem binds_sound (ok : FmOk C F) : ∀ {es : List Expr} {xs : List SV} {vs : List Value} {st : St} {s : Shared} {k : St → Prop} {Q : Unit → Shared → Prop}, Rep w F ads st s.heap → DenL F.B ads xs vs → bindsT F.sc.names es xs st k →
  (∀ st' s', k st' → Rep w F ads st' s'.heap → Nx F s s' → Q () s') → wpAny (model prog w) F.A (assignInOrder ((assignEach es F.env).map (·.2)) vs) Q E s
 | [], xs, vs, st, s, k, Q, R, D, h, hQ => by
  cases D with
  | nil => exact wpAny_pure (hQ _ _ h R (Nx.refl s))
  | cons _ _ => exact h.elim
 | e :: es, xs, vs, st, s, k, Q, R, D, h, hQ => by
  cases e <;> first | exact False.elim h | skip
  cases D with
  | nil => exact h.elim
  | cons dx dr =>
   refine assignInOrder_cons (wpAny_assign_Name (store_sound (k := fun st' => bindsT F.sc.names es _ st' k) ok R dx h fun st' s' h R' x' => ?_))
   exact binds_sound ok R' dr h fun st'' s'' hk R'' x'' => hQ _ _ hk R'' (x'.trans x'')
theorem assignEach_len : ∀ {ns : List (Str × NameKind)} {es : List Expr} {xs : List SV} {st : St} {k : St → Prop} {env : Env}, bindsT ns es xs st k → (assignEach es env).length = es.length ∧ (assignEach es env).findIdx? (·.1) = none := by
 have key : ∀ {es : List Expr} {env : Env}, (∀ e ∈ es, ∃ n p, e = .Name n p) → (assignEach es env).length = es.length ∧ (assignEach es env).findIdx? (·.1) = none := by
  intro es env
  induction es with
  | nil => intro _; exact ⟨rfl, rfl⟩
  | cons e es ih =>
   intro h
   obtain ⟨n, p, rfl⟩ := h _ (.head _)
   obtain ⟨a, b⟩ := ih fun x hx => h x (.tail _ hx)
   refine ⟨congrArg (· + 1) a, ?_⟩
   show List.findIdx? (·.1) ((false, assign (.Name n p) env) :: assignEach es env) = none
   rw [List.findIdx?_cons, b]
   rfl
 intro ns es xs st k env h
 refine key ?_
 induction es generalizing xs st k with
 | nil => intro e he; cases he
 | cons e es ih =>
  cases e <;> first | exact False.elim h | skip
  cases xs with
  | nil => exact False.elim h
  | cons x xs =>
   intro e' he'
   rcases List.mem_cons.mp he' with rfl | he'
   ·exact ⟨_, _, rfl⟩
   ·rcases locCel_some h with ⟨_, h⟩ | ⟨_, h⟩
    ·exact ih h e' he'
    ·obtain ⟨y, _, h⟩ := onOpt_some h
     obtain ⟨i, _, h⟩ := onOb_some h
     obtain ⟨o, _, h⟩ := onCel_some h
     exact ih h e' he'
theorem bind_sound {tgt : Expr} {x : SV} {u : Value} {k : St → Prop} {Q : Unit → Shared → Prop} (ok : FmOk C F) (R : Rep w F ads st s.heap) (d : Den F.B ads x u) (h : bindT F.sc.names tgt x st k)
  (hQ : ∀ st' s', k st' → Rep w F ads st' s'.heap → Nx F s s' → Q () s') : wpAny (model prog w) F.A (assign tgt F.env u) Q E s := by
 cases tgt <;> first | exact False.elim h | skip
 ·exact wpAny_assign_Name (store_sound ok R d h hQ)
 ·rename_i elts q pos
  obtain ⟨b, xs, e, hl, h⟩ := h
  obtain ⟨a, vs, rfl, hsq, D⟩ := seq_sound ok R d e
  obtain ⟨l1, l2⟩ := assignEach_len (env := F.env) h
  rw [PyProof.Rows.assign_Tuple]
  refine wpAny_bind (wpAny_standAt (unpack_seq ok.hand hsq (by rw [l1, ← hl, D.length]) l2 fun h' he => ?_))
  refine binds_sound (s := { s with heap := h' }) ok ?_ D h fun st' s' hk R' x' => hQ st' s' hk R' ((Nx.of_gens rfl rfl rfl : Nx F s { s with heap := h' }).trans x')
  exact rep_same R fun b o q => he b o (Nat.ne_of_lt (Heap.lt_size q)) q
end
section
variable {w : World} {C : Cf} {F : Fm} {ads : Wd} {s : Shared} {st : St} {A : Around} {E : Value → Shared → Prop}
theorem code_for {target it : _} {body : List Stmt} {env : Env} {R : Result → Shared → Prop}
  (turn : wpAny (model prog w) A (pyNext it) (fun r s₁ => match r with
   | none => wpAny (model prog w) A (execs [] env) (fun f s₃ => R (.ok f) s₃) (notedBy (model prog w) A env fun e s' => R (.error e) s') s₁
   | some v => wpAny (model prog w) A (letOwnedTupleGo target it v) (fun _ s₁' =>
     wpAny (model prog w) A (assign target env v) (fun _ s₂ => wpAny (model prog w) A (execs body env) (fun f s₃ => match f with
      | .next | .cont => codeAny (model prog w) A (.forLoop target it body [] env) R s₃
      | .brk => R (.ok .next) s₃
      | .ret v => R (.ok (.ret v)) s₃) (notedBy (model prog w) A env fun e s' => R (.error e) s') s₂) (notedBy (model prog w) A env fun e s' => R (.error e) s') s₁') (notedBy (model prog w) A env fun e s' => R (.error e) s') s₁) (notedBy (model prog w) A env fun e s' => R (.error e) s') s) :
  codeAny (model prog w) A (.forLoop target it body [] env) R s := by
 refine codeAny_of_tree ?_
 show wpAny _ A ((forTurn target it body [] env).onRaise (fun x => do noteFrame x env; theTreesLotGoes x)) _ _ s
 refine wpAny_noted ?_
 simp only [forTurn]
 refine wpAny_bind (wpAny_standAt (wpAny_bind (wpAny_onRaise (wpAny_mono turn (fun r s₁ h₁ => ?_) fun _ _ h' => wpAny_standAt h'))))
 cases r with
 | none => exact wpAny_pure ⟨rfl, codeAny_block h₁⟩
 | some v =>
  refine wpAny_bind (wpAny_mono h₁ (fun _ s₁' h₁' => ?_) fun _ _ h' => h')
  refine wpAny_bind (wpAny_mono h₁' (fun _ s₂ h₂ => wpAny_bind (wpAny_mono h₂ (fun f s₃ h₃ => ?_) fun _ _ h' => h')) fun _ _ h' => h')
  cases f with
  | next => exact wpAny_pure ⟨rfl, h₃⟩
  | cont => exact wpAny_pure ⟨rfl, h₃⟩
  | brk => exact wpAny_pure h₃
  | ret v => exact wpAny_pure h₃
theorem srcT_mem {st : St} {v x : SV} {all xs : List SV} {slot : Nat → SO} {j : Nat} (hs : srcT st v = some (all, slot)) (hd : all.drop j = x :: xs) : all[j]? = some x ∧ all.drop (j + 1) = xs ∧ x ∈ all := by
 have h1 : all[j]? = some x := by
  have := congrArg (fun l => l[0]?) hd
  simpa using this
 refine ⟨h1, ?_, List.mem_of_getElem? h1⟩
 rw [← List.tail_drop, hd]; rfl
theorem srck_set {st : St} {v : SV} {all : List SV} {slot : Nat → SO} {p j : Nat} (h1 : st.led[p]? = some (slot j)) (h2 : srcT st v = some (all, slot)) : SrcK { st with led := st.led.set p (slot (j + 1)) } v all slot := by
 cases srcT_kind h2 with
 | str y => exact .str y
 | seq hq =>
  rename_i b
  refine .seq ?_
  cases v <;> first | exact no_some hq | exact hq | skip
  ·rename_i i
   replace hq : seqO st.led[i]? = some (b, all) := hq
   show seqO (st.led.set p (SO.it b (SV.obj i) (j + 1)))[i]? = _
   by_cases hip : i = p
   ·subst hip
    rw [h1] at hq
    cases hq
   ·rw [List.getElem?_set_ne (Ne.symm hip)]
    exact hq
 | rng hi =>
  rename_i i n
  refine .rng ?_
  by_cases hip : i = p
  ·subst hip
   rw [h1] at hi; cases hi
  ·rw [show ({ st with led := st.led.set p (SO.itr n (j + 1)) } : St).led = st.led.set p (SO.itr n (j + 1)) from rfl, List.getElem?_set_ne (Ne.symm hip)]
   exact hi
theorem forE_sound {tgt : Expr} {body : List Stmt} {I : Addr} {bd : St → Kt → Prop} {v : SV} {all : List SV} {slot : Nat → SO} {p : Nat} {k : Kt} {Q : CR → Shared → Prop} (ok : FmOk C F)
  (hb : ∀ (E' : Value → Shared → Prop) (st : St) (k' : Kt) (ads : Wd) (s : Shared) (Q' : CR → Shared → Prop), bd st k' → Rep w F ads st s.heap → Then w F ads s k' Q' → wpAny (model prog w) F.A (execs body F.env) (fun f s' => Q' (.fl f) s') E' s)
  {R : Result → Shared → Prop} (hR : ∀ f s', Q (.fl f) s' → R (.ok f) s') : ∀ (xs : List SV) (j : Nat) (st : St) (ads : Wd) (s : Shared), forE (bindT F.sc.names tgt) bd v all slot p j xs st k → all.drop j = xs → Rep w F ads st s.heap → Den F.B ads (.obj p) (.ref I) → Then w F ads s k Q →
   codeAny (model prog w) F.A (.forLoop tgt (.ref I) body [] F.env) R s
 | [], j, st, ads, s, h, hd, Rp, dI, T => by
  obtain ⟨h1, h2, h3⟩ := h
  refine code_for (iter_done ok.hand ok Rp dI h1 h2 ?_ fun s' R' x' => ?_)
  ·rw [List.getElem?_eq_none_iff]
   rw [List.drop_eq_nil_iff] at hd; exact hd
  ·exact wpAny_execs_nil (hR _ _ (T.same (r := .next) (c := .fl .next) h3 R' x' trivial))
 | x :: xs, j, st, ads, s, h, hd, Rp, dI, T => by
  obtain ⟨h1, h2, h3⟩ := h
  obtain ⟨e1, e2, e3⟩ := srcT_mem h2 hd
  have hplt : p < st.led.length := (List.getElem?_eq_some_iff.mp h1).1
  have hpl : st.led.length = ads.ads.length := led_len' Rp
  refine code_for (iter_next ok Rp dI h1 h2 e1 fun s₁ u R₁ x₁ du => ?_)
  have hp1 : (st.led.set p (slot (j + 1)))[p]? = some (slot (j + 1)) := by rw [List.getElem?_set_self hplt]
  refine iter_letGo (v := v) (st := { st with led := st.led.set p (slot (j + 1)) }) ok R₁ dI hp1 ?_ e3 du ?_
  ·exact srck_set h1 h2
  ·refine bind_sound ok R₁ du h3 fun st₂ s₂ h₂ R₂ x₂ => ?_
   refine hb _ st₂ _ ads s₂ (fun c s' => match c with
    | .fl f => match f with
     | .next | .cont => codeAny (model prog w) F.A (.forLoop tgt (.ref I) body [] F.env) R s'
     | .brk => R (.ok .next) s'
     | .ret v => R (.ok (.ret v)) s'
    | _ => False) h₂ R₂ ?_
   intro r st₃ m c s₃ h₃ R₃ x₃ d₃
   have xx := (x₁.trans x₂).trans x₃
   have nxt : (∃ st₄, Trim st.led.length st₃ st₄ ∧ forE (bindT F.sc.names tgt) bd v all slot p (j + 1) xs st₄ k) → codeAny (model prog w) F.A (.forLoop tgt (.ref I) body [] F.env) R s₃ := by
    rintro ⟨st₄, tr, h₄⟩
    rw [hpl] at tr
    obtain ⟨z, R₄⟩ := rep_trim ok R₃ tr
    exact forE_sound ok hb hR xs (j + 1) st₄ _ s₃ h₄ e2 R₄ dI.mono (T.later xx)
   cases r with
   | next =>
    cases c with
    | fl f => cases f <;> first | exact nxt h₃ | exact d₃.elim
    | _ => exact d₃.elim
   | cont =>
    cases c with
    | fl f => cases f <;> first | exact nxt h₃ | exact d₃.elim
    | _ => exact d₃.elim
   | ret y =>
    cases c with
    | fl f => cases f <;> first | exact d₃.elim | exact hR _ _ ((T.later (more := m) xx).same (r := .ret y) h₃ R₃ (Nx.refl _) d₃)
    | _ => exact d₃.elim
   | _ => exact h₃.elim
end
noncomputable def kindF (k : ScopeKind) : Bool := match k with
 | .function => true
 | _ => false
noncomputable def scNames (ns all : List (Str × NameKind)) : List (Str × NameKind) → Bool
 | [] => true
 | (x, k) :: r => match k with
  | .cell => false
  | .local => kLoc (nmKind x all) && scNames ns all r
  | .free => kFre (nmKind x all) && (kCel (nmKind x ns) && scNames ns all r)
  | _ => scNames ns all r
noncomputable def scOk (ns : List (Str × NameKind)) (sc : Scope) : Bool := match kindF sc.kind with
 | true => scNames ns sc.names sc.names
 | false => false
theorem scNames_sound {ns all : List (Str × NameKind)} : ∀ {l : List (Str × NameKind)}, scNames ns all l = true → ∀ x ∈ l, x.2 ≠ .cell ∧ (x.2 = .local → all.lookup x.1 = some .local) ∧ (x.2 = .free → all.lookup x.1 = some .free ∧ ns.lookup x.1 = some .cell)
 | (y, k) :: r, h, x, hx => by
  have rest : scNames ns all r = true → x ∈ r → x.2 ≠ .cell ∧ (x.2 = .local → all.lookup x.1 = some .local) ∧ (x.2 = .free → all.lookup x.1 = some .free ∧ ns.lookup x.1 = some .cell) := fun h hx => scNames_sound h x hx
  cases k with
  | cell => exact Bool.noConfusion h
  | «local» =>
   obtain ⟨hk, h⟩ := and_tr h
   rcases List.mem_cons.mp hx with rfl | hx
   ·exact ⟨nofun, fun _ => kLoc_eq hk, nofun⟩
   ·exact rest h hx
  | free =>
   obtain ⟨hk, h⟩ := and_tr h
   obtain ⟨hk', h⟩ := and_tr h
   rcases List.mem_cons.mp hx with rfl | hx
   ·exact ⟨nofun, nofun, fun _ => ⟨kFre_eq hk, kCel_eq hk'⟩⟩
   ·exact rest h hx
  | _ =>
   rcases List.mem_cons.mp hx with rfl | hx
   ·exact ⟨nofun, nofun, nofun⟩
   ·exact rest h hx
noncomputable def relab : List (Str × NameKind) → List (Str × NameKind)
 | [] => []
 | (x, k) :: r => match k with
  | .free => (x, .cell) :: relab r
  | k => (x, k) :: relab r
theorem relab_eq {env : Env} (hk : env.scope.kind = .function) : ∀ {l : List (Str × NameKind)}, (∀ x ∈ l, x.2 = .free → env.kindOf x.1 = some .cell) → (l.map fun (n, k) => if (k == NameKind.free && env.scope.kind == .function && env.kindOf n == some .cell) then (n, NameKind.cell) else (n, k)) = relab l
 | [], _ => rfl
 | (x, k) :: r, h => by
  have ih := relab_eq hk (l := r) fun y hy => h y (.tail _ hy)
  rw [List.map_cons, ih]
  cases k with
  | free =>
   have := h _ (.head _) rfl
   show (if _ then _ else _) :: _ = (x, NameKind.cell) :: relab r
   rw [hk, this]; rfl
  | _ => rfl
theorem relab_lookup : ∀ {l : List (Str × NameKind)} {x : Str}, (relab l).lookup x = (l.lookup x).map fun k => match k with
  | .free => .cell
  | k => k
 | [], _ => rfl
 | (y, k) :: r, x => by
  have ih := relab_lookup (l := r) (x := x)
  cases q : x == y with
  | true => cases k <;> simp [relab, List.lookup_cons, q]
  | false => cases k <;> simp [relab, List.lookup_cons, q, ih]
noncomputable def clOf (cells : List (Str × Addr)) : List (Str × NameKind) → List (Str × Addr) → List (Str × Addr)
 | [], acc => acc
 | (x, k) :: r, acc => match k with
  | .free => clOf cells r ((x, (cells.lookup x).getD 0) :: acc)
  | _ => clOf cells r acc
theorem closureFor_eq {env : Env} {scope : Scope} (h : ∀ x ∈ scope.names, x.2 = .free → ∃ a, env.cells.lookup x.1 = some a) : closureFor scope env = pure (clOf env.cells scope.names []) := by
 have key : ∀ (l : List (Str × NameKind)) (acc : List (Str × Addr)), (∀ x ∈ l, x.2 = .free → ∃ a, env.cells.lookup x.1 = some a) →
   (forIn l acc fun (x : Str × NameKind) (cs : List (Str × Addr)) => match x with
    | (name, kind) => if (kind == .free) = true then (do let a ← cellOf env name; pure (ForInStep.yield ((name, a) :: cs))) else pure (ForInStep.yield cs) : Sem (List (Str × Addr))) = pure (clOf env.cells l acc) := by
  intro l
  induction l with
  | nil => intro acc _; rfl
  | cons x r ih =>
   intro acc h
   obtain ⟨n, k⟩ := x
   rw [List.forIn_cons]
   have hr := fun acc => ih acc fun y hy => h y (.tail _ hy)
   cases k with
   | free =>
    obtain ⟨a, ha⟩ := h _ (.head _) rfl
    have e1 : cellOf env n = pure a := by unfold cellOf; rw [ha]
    show ((do let a ← cellOf env n; pure (ForInStep.yield ((n, a) :: acc))) >>= _) = _
    rw [e1]
    show (forIn r ((n, a) :: acc) _ : Sem _) = pure (clOf env.cells r ((n, (env.cells.lookup n).getD 0) :: acc))
    rw [ha]
    exact hr _
   | _ => exact hr _
 have := key scope.names [] h
 unfold closureFor
 simp only [bind_pure_comp] at this ⊢
 first
  | exact this
  | (simp only [map_pure, bind_pure] at this ⊢; exact this)
  | (rw [← this]; rfl)
theorem clOf_lookup {cells : List (Str × Addr)} {x : Str} : ∀ {l : List (Str × NameKind)} {acc : List (Str × Addr)}, (clOf cells l acc).lookup x = if (x, NameKind.free) ∈ l then some ((cells.lookup x).getD 0) else acc.lookup x
 | [], acc => by simp [clOf]
 | (y, k) :: r, acc => by
  have other : k ≠ .free → (clOf cells r acc).lookup x = if (x, NameKind.free) ∈ (y, k) :: r then some ((cells.lookup x).getD 0) else acc.lookup x := fun hk => by
   rw [clOf_lookup]
   have : ((x, NameKind.free) ∈ (y, k) :: r) ↔ (x, NameKind.free) ∈ r := by
    rw [List.mem_cons]
    exact ⟨fun h => h.resolve_left fun e => hk (by cases e; rfl), .inr⟩
   simp only [this]
  cases k with
  | free =>
   show (clOf cells r _).lookup x = _
   rw [clOf_lookup]
   by_cases hr : (x, NameKind.free) ∈ r
   ·rw [if_pos hr, if_pos (.tail _ hr)]
   ·rw [if_neg hr, List.lookup_cons]
    by_cases hy : x = y
    ·subst hy
     rw [beq_self_eq_true, if_pos (.head _)]
    ·have : (x == y) = false := beq_eq_false_iff_ne.mpr hy
     rw [this, if_neg]
     intro h
     rcases List.mem_cons.mp h with e | h
     ·cases e; exact hy rfl
     ·exact hr h
  | _ => exact other (by simp)
noncomputable def freesOf (loc : List (Str × SV)) : List (Str × NameKind) → List (Str × SV)
 | [] => []
 | (x, k) :: r => match k with
  | .free => match lk x loc with
   | some v => (x, v) :: freesOf loc r
   | none => freesOf loc r
  | _ => freesOf loc r
theorem freesOf_lk {loc : List (Str × SV)} {x : Str} {v : SV} : ∀ {l : List (Str × NameKind)}, lk x (freesOf loc l) = some v → lk x loc = some v ∧ (x, NameKind.free) ∈ l
 | [], h => by cases h
 | (y, k) :: r, h => by
  have other : lk x (freesOf loc r) = some v → lk x loc = some v ∧ (x, NameKind.free) ∈ (y, k) :: r := fun h => ⟨(freesOf_lk h).1, .tail _ (freesOf_lk h).2⟩
  cases k with
  | free =>
   unfold freesOf at h
   dsimp only at h
   split at h
   ·rename_i u hu
    unfold lk at h
    cases q : Fast.sEq x y with
    | true =>
     rw [q] at h; cases h
     have := sEq_true q; subst this
     exact ⟨hu, .head _⟩
    | false => rw [q] at h; exact other h
   ·exact other h
  | _ => exact other h
section
variable {w : World} {C : Cf} {F : Fm} {ads : Wd} {s : Shared} {st : St} {A : Around} {E : Value → Shared → Prop}
theorem scOk_parts {ns : List (Str × NameKind)} {sc : Scope} (h : scOk ns sc = true) : sc.kind = .function ∧ ∀ x ∈ sc.names, x.2 ≠ .cell ∧ (x.2 = .local → sc.names.lookup x.1 = some .local) ∧ (x.2 = .free → sc.names.lookup x.1 = some .free ∧ ns.lookup x.1 = some .cell) := by
 unfold scOk at h
 split at h
 ·rename_i hk
  refine ⟨?_, scNames_sound h⟩
  cases q : sc.kind <;> first | rfl | (rw [q] at hk; exact Bool.noConfusion hk)
 ·cases h
theorem comp_enter {sc : Scope} {o0 : Obj} {h₁ : Heap} (ok : FmOk C F) (hsc : scOk F.sc.names sc = true) (R : Rep w F ads st s.heap) (hns : h₁.Ns s.heap.objs.size (fun x => ([] : List (Str × Value)).reverse.lookup x)) (hsb : Heap.SameBut s.heap.objs.size (s.heap.push o0) h₁) :
  ∃ F' : Fm, FmOk C F' ∧ F'.A = F.A ∧ F'.env = compEnvC sc (clOf F.env.cells sc.names []) s.heap.objs.size F.env ∧ (F'.B = F.B ∧ F'.quiet = F.quiet) ∧ F'.sc.names = relab sc.names ∧ Rep w F' ads ⟨freesOf st.loc sc.names, st.led⟩ h₁ ∧
   (∀ W loc' loc₂ led' h' h'', Rep w F' W ⟨loc', led'⟩ h' → (∀ b o, b ≠ s.heap.objs.size → h'.get? b = some o → h''.get? b = some o) → (∀ x y, lk x loc₂ = some y → ∃ z, lk x st.loc = some z ∧ ∀ v, Den F.B ads z v → Den F.B W y v) → Rep w F W ⟨loc₂, led'⟩ h'') ∧ (∀ W st' h', Rep w F' W st' h' → ∃ m, h'.Ns s.heap.objs.size m) := by
 obtain ⟨hk, hn⟩ := scOk_parts hsc
 obtain ⟨m, news, lw, X⟩ := R
 obtain ⟨oL, es, ep, hL, hLd, hLk, hLf⟩ := X.fr.ns
 have hF0 : F.h₀.get? F.L = none := by
  cases q : F.h₀.get? F.L with
  | none => rfl
  | some o => exact absurd (Heap.lt_size q) (Nat.not_lt.mpr X.fr.above)
 let all : List (Addr × Obj) := news ++ (ads.fz ++ ((F.L, oL) :: lw))
 have pmA : all.Perm ((F.L, oL) :: (news ++ (ads.fz ++ lw))) := by
  show (news ++ (ads.fz ++ ((F.L, oL) :: lw))).Perm _
  rw [← List.append_assoc, ← List.append_assoc]
  exact List.perm_middle
 have nwA : ∀ p ∈ all, s.heap.get? p.1 = some p.2 ∧ F.h₀.get? p.1 = none := fun p hp => by
  rcases List.mem_cons.mp (pmA.mem_iff.mp hp) with rfl | q
  ·exact ⟨hL, hF0⟩
  ·exact ⟨(X.nw p q).1, (X.nw p q).2.2⟩
 have ndA : (all.map (·.1)).Nodup := by
  refine (pmA.map (·.1)).nodup_iff.mpr (List.nodup_cons.mpr ⟨fun q => ?_, X.nd⟩)
  obtain ⟨p, hp, e⟩ := List.mem_map.mp q
  exact (X.nw p hp).2.1 e
 have nm : ∀ b o, F.h₀.get? b = some o → b ∉ all.map (·.1) := fun b o e q => by
  obtain ⟨p, hp, rfl⟩ := List.mem_map.mp q
  rw [(nwA p hp).2] at e; cases e
 have stay : F.h₀.StaysIn (hideAll s.heap (all.map (·.1))) := fun b o e => hideAll_get _ (X.fr.keep b o e) (nm b o e)
 have hk₁ : ∀ b o, s.heap.get? b = some o → h₁.get? b = some o := fun b o e => hsb.extBut b o (Nat.ne_of_lt (Heap.lt_size e)) (Heap.get?_push_of_some _ e)
 let cl := clOf F.env.cells sc.names []
 let en : Env := compEnvC sc cl s.heap.objs.size F.env
 have hrel : (relabel sc F.env).names = relab sc.names := relab_eq (show F.env.scope.kind = _ from ok.kind) fun x hx hf => ((hn x hx).2.2 hf).2
 let F' : Fm := ⟨F.B, hideAll s.heap (all.map (·.1)), s.heap.objs.size, en, F.A, F.stk, (F.L, oL) :: lw, F.quiet⟩
 have clk : ∀ x, (x, NameKind.free) ∈ sc.names → ∃ a, F.env.cells.lookup x = some a ∧ cl.lookup x = some a := fun x hx => by
  obtain ⟨a, ha⟩ := ok.cel2 x ((hn _ hx).2.2 rfl).2
  refine ⟨a, ha, ?_⟩
  show (clOf F.env.cells sc.names []).lookup x = some a
  rw [clOf_lookup, if_pos hx, ha]; rfl
 have cnone : ∀ x, sc.names.lookup x = some .local → cl.lookup x = none := fun x hx => by
  show (clOf F.env.cells sc.names []).lookup x = none
  rw [clOf_lookup, if_neg]
  ·rfl
  ·intro hm
   rw [((hn _ hm).2.2 rfl).1] at hx; cases hx
 have ok' : FmOk C F' := by
  refine ⟨ok.X.keeps stay, ok.G.keeps stay, fun b o e => stay b o (ok.stay b o e), hk, ok.hand, ok.stack, ok.loud, (ok.low.ups X.ups).inner (fun vs q => by rw [hLd] at q; cases q), rfl, ok.gl, ok.bi, fun x hx => ?_, fun x hx => ?_⟩
  ·have hx' : (relab sc.names).lookup x = some .local := hrel ▸ hx
   rw [relab_lookup, Option.map_eq_some_iff] at hx'
   obtain ⟨k, h1, h2⟩ := hx'
   cases k <;> first | exact cnone x h1 | cases h2
  ·have hx' : (relab sc.names).lookup x = some .cell := hrel ▸ hx
   rw [relab_lookup, Option.map_eq_some_iff] at hx'
   obtain ⟨k, h1, h2⟩ := hx'
   cases k with
   | free =>
    obtain ⟨a, _, q⟩ := clk x (mem_of_lookup h1)
    exact ⟨a, q⟩
   | cell => exact absurd rfl (hn _ (mem_of_lookup h1)).1
   | _ => cases h2
 refine ⟨F', ok', rfl, rfl, ⟨rfl, rfl⟩, hrel, ?_, ?_, ?_⟩
 ·refine ⟨_, news, (F.L, oL) :: lw, ⟨hns, fun b o q => hk₁ b o (of_hideAll _ q), Nat.le_of_eq (hideAll_size _ _)⟩, fun p hp => ⟨hk₁ _ _ (nwA p hp).1, Nat.ne_of_lt (Heap.lt_size (nwA p hp).1), hideAll_none _ (List.mem_map_of_mem hp)⟩, ?_, X.led, ndA, Ups.refl _⟩
  intro x sv hx
  obtain ⟨h1, h2⟩ := freesOf_lk hx
  obtain ⟨v, e1, e2⟩ := X.loc x sv h1
  obtain ⟨a, q1, q2⟩ := clk x h2
  refine ⟨v, ?_, e2⟩
  unfold locM at e1 ⊢
  rw [q1] at e1
  show (match cl.lookup x with | some a => _ | none => _) = _
  rw [q2]; exact e1
 ·intro W loc' loc₂ led' h' h'' R1 hs hloc
  obtain ⟨m', news', lw', X'⟩ := R1
  have u := X'.ups
  have nw' := X'.nw
  have nd' := X'.nd
  have keepC : ∀ b o, b ≠ s.heap.objs.size → h'.get? b = some o → h''.get? b = some o := hs
  have notC : ∀ b o, s.heap.get? b = some o → b ≠ s.heap.objs.size := fun b o e => Nat.ne_of_lt (Heap.lt_size e)
  cases u with
  | cons u =>
   rename_i sl lw₂
   have pm : (news' ++ (W.fz ++ ((F.L, { oL with slots := sl }) :: lw₂))).Perm ((F.L, { oL with slots := sl }) :: (news' ++ (W.fz ++ lw₂))) := by
    rw [← List.append_assoc, ← List.append_assoc]
    exact List.perm_middle
   have nd2 := (pm.map (·.1)).nodup_iff.mp nd'
   rw [List.map_cons, List.nodup_cons] at nd2
   have hLn := (nw' _ (pm.mem_iff.mpr (.head _))).1
   refine ⟨m, news', lw₂, ⟨⟨_, es, ep, keepC _ _ (notC _ _ hL) hLn, hLd, hLk, hLf⟩, fun b o q => keepC _ _ (notC _ _ (X.fr.keep b o q)) (X'.fr.keep b o (stay b o q)), X.fr.above⟩, fun p hp => ⟨?_, fun q => ?_, ?_⟩, fun x y hx => let ⟨z, a, b⟩ := hloc x y hx; let ⟨v, c, d⟩ := X.loc x z a; ⟨v, c, b v d⟩, X'.led, nd2.2, X.ups.trans u⟩
   ·have z := nw' p (pm.mem_iff.mpr (.tail _ hp))
    exact keepC _ _ z.2.1 z.1
   ·exact nd2.1 (List.mem_map.mpr ⟨p, hp, q⟩)
   ·cases q : F.h₀.get? p.1 with
    | none => rfl
    | some o =>
     have hz : (hideAll s.heap (all.map (·.1))).get? p.1 = none := (nw' p (pm.mem_iff.mpr (.tail _ hp))).2.2
     rw [stay _ _ q] at hz; cases hz
 ·intro W st' h' R1
  obtain ⟨m', news', lw', X'⟩ := R1
  exact ⟨m', X'.fr.ns⟩
theorem code_comp {elt target iter : Expr} {ifs : List Expr} {scope : Scope} {pos : Pos} {it acc : Value} {env : Env} {R : Result → Shared → Prop}
  (turn : wpAny (model prog w) A (pyNext it) (fun r s₁ => match r with
   | none => R (.ok .next) s₁
   | some v => wpAny (model prog w) A (letOwnedTupleGo target it v) (fun _ s₁' => wpAny (model prog w) A (assign target env v) (fun _ s₂ =>
     wpAny (model prog w) A (forIn ifs true fun c r => if r = true then do let ok ← isTrue c env (eval c env); pure (ForInStep.yield ok) else pure (ForInStep.yield r)) (fun ok s₃ =>
      if ok = true then wpAny (model prog w) A (eval elt env) (fun x s₄ =>
       wpAny (model prog w) A (call (.builtin "list.append") [acc, x]) (fun _ s₅ => codeAny (model prog w) A (.compLoop (.ListComp elt [⟨target, iter, ifs, 0⟩] scope pos) 0 it acc env) R s₅) (notedBy (model prog w) A env fun e s' => R (.error e) s') s₄) (notedBy (model prog w) A env fun e s' => R (.error e) s') s₃
      else codeAny (model prog w) A (.compLoop (.ListComp elt [⟨target, iter, ifs, 0⟩] scope pos) 0 it acc env) R s₃) (notedBy (model prog w) A env fun e s' => R (.error e) s') s₂) (notedBy (model prog w) A env fun e s' => R (.error e) s') s₁') (notedBy (model prog w) A env fun e s' => R (.error e) s') s₁) (notedBy (model prog w) A env fun e s' => R (.error e) s') s) :
  codeAny (model prog w) A (.compLoop (.ListComp elt [⟨target, iter, ifs, 0⟩] scope pos) 0 it acc env) R s := by
 refine codeAny_of_tree ?_
 show wpAny _ A ((compTurn (.ListComp elt [⟨target, iter, ifs, 0⟩] scope pos) 0 it acc env).onRaise (fun x => do noteFrame x env; theTreesLotGoes x)) _ _ s
 refine wpAny_noted ?_
 rw [compTurn_list]
 refine wpAny_bind (wpAny_standAt (wpAny_bind (wpAny_mono turn (fun r s₁ h₁ => ?_) fun _ _ h' => h')))
 cases r with
 | none => exact wpAny_pure h₁
 | some v =>
  refine wpAny_bind (wpAny_mono h₁ (fun _ s₁' h₁' => ?_) fun _ _ h' => h')
  refine wpAny_bind (wpAny_mono h₁' (fun _ s₂ h₂ => wpAny_bind (wpAny_mono h₂ (fun ok s₃ h₃ => ?_) fun _ _ h' => h')) fun _ _ h' => h')
  cases ok with
  | false =>
   simp only [Bool.false_eq_true, if_false] at h₃ ⊢
   first
    | exact wpAny_pure ⟨rfl, h₃⟩
    | exact wpAny_bind (wpAny_pure (wpAny_pure ⟨rfl, h₃⟩))
  | true =>
   simp only [if_true] at h₃ ⊢
   refine wpAny_bind (wpAny_bind (wpAny_mono h₃ (fun x s₄ h₄ => wpAny_bind (wpAny_mono h₄ (fun _ s₅ h₅ => wpAny_pure (wpAny_pure ⟨rfl, h₅⟩)) fun _ _ h' => h')) fun _ _ h' => h'))
end
section
variable {w : World} {C : Cf} {F : Fm} {ads : Wd} {s : Shared} {st : St} {A : Around} {E : Value → Shared → Prop}
noncomputable def EvOk (w : World) (F : Fm) (e : Expr) (ev : St → Kt → Prop) : Prop := ∀ (E' : Value → Shared → Prop) (st : St) (k' : Kt) (ads : Wd) (s : Shared) (Q' : CR → Shared → Prop), ev st k' → Rep w F ads st s.heap → Then w F ads s k' Q' → wpAny (model prog w) F.A (eval e F.env) (fun v s' => Q' (.v v) s') E' s
noncomputable def TrOk (w : World) (F : Fm) (e : Expr) (ev : St → Kt → Prop) : Prop := ∀ (E' : Value → Shared → Prop) (st : St) (k' : Kt) (ads : Wd) (s : Shared) (Q' : CR → Shared → Prop), ev st k' → Rep w F ads st s.heap → Then w F ads s k' Q' → wpAny (model prog w) F.A (PySem.isTrue e F.env (eval e F.env)) (fun b s' => Q' (.b b) s') E' s
inductive IfsOk (w : World) (F : Fm) : List Expr → Option (St → Kt → Prop) → Prop
 | none : IfsOk w F [] none
 | one {c : Expr} {t : St → Kt → Prop} : TrOk w F c t → IfsOk w F [c] (some t)
theorem tests_sound {ifs : List Expr} {test : Option (St → Kt → Prop)} {k : Bool → St → Prop} {Q : Bool → Shared → Prop} (ht : IfsOk w F ifs test) (R : Rep w F ads st s.heap) (h : testE test st k)
  (hQ : ∀ c st' more s', k c st' → Rep w F (ads ++ more) st' s'.heap → Nx F s s' → Q c s') :
  wpAny (model prog w) F.A (forIn ifs true fun c r => if r = true then do let ok ← isTrue c F.env (eval c F.env); pure (ForInStep.yield ok) else pure (ForInStep.yield r)) Q E s := by
 cases ht with
 | none => exact wpAny_tests_nil (hQ true st .nil s h (by rw [Wd.append_nil]; exact R) (Nx.refl s))
 | one hc =>
  refine wpAny_tests_one (hc E st _ ads s (fun c s' => match c with | .b c => Q c s' | _ => False) h R ?_)
  intro r st₁ m1 c s₁ h₁ R₁ x₁ d₁
  cases r with
  | b c' =>
   cases c with
   | b c => cases d₁; exact hQ _ _ _ _ h₁ R₁ x₁
   | _ => exact d₁.elim
  | _ => exact h₁.elim
theorem compE_sound {tgt iter elt : Expr} {ifs : List Expr} {sc : Scope} {pos : Pos} {I a : Addr} {el : St → Kt → Prop} {test : Option (St → Kt → Prop)} {v : SV} {all : List SV} {slot : Nat → SO} {p q : Nat} {k : St → Prop} (ok : FmOk C F)
  (he : EvOk w F elt el) (ht : IfsOk w F ifs test) (hpq : p < q) {R : Result → Shared → Prop} : ∀ (xs : List SV) (j : Nat) (st : St) (ads : Wd) (s : Shared), compE (bindT F.sc.names tgt) test el v all slot p q j xs st k → all.drop j = xs → Rep w F ads st s.heap → Den F.B ads (.obj p) (.ref I) → Den F.B ads (.obj q) (.ref a) →
   (∀ more st' s', k st' → Rep w F (ads ++ more) st' s'.heap → Nx F s s' → R (.ok .next) s') →
   codeAny (model prog w) F.A (.compLoop (.ListComp elt [⟨tgt, iter, ifs, 0⟩] sc pos) 0 (.ref I) (.ref a) F.env) R s
 | [], j, st, ads, s, h, hd, Rp, dI, da, fin => by
  obtain ⟨h1, h2, h3⟩ := h
  refine code_comp (iter_done ok.hand ok Rp dI h1 h2 ?_ fun s' R' x' => ?_)
  ·rw [List.getElem?_eq_none_iff]
   rw [List.drop_eq_nil_iff] at hd; exact hd
  ·exact fin .nil _ s' h3 (by rw [Wd.append_nil]; exact R') x'
 | x :: xs, j, st, ads, s, h, hd, Rp, dI, da, fin => by
  obtain ⟨h1, h2, h3⟩ := h
  obtain ⟨e1, e2, e3⟩ := srcT_mem h2 hd
  have hplt : p < st.led.length := (List.getElem?_eq_some_iff.mp h1).1
  have hpl : st.led.length = ads.ads.length := led_len' Rp
  have nxt : ∀ (st₃ : St) (m : Wd) (s₃ : Shared), Nx F s s₃ → Rep w F (ads ++ m) st₃ s₃.heap → (∃ st₅, Trim st.led.length st₃ st₅ ∧ compE (bindT F.sc.names tgt) test el v all slot p q (j + 1) xs st₅ k) → codeAny (model prog w) F.A (.compLoop (.ListComp elt [⟨tgt, iter, ifs, 0⟩] sc pos) 0 (.ref I) (.ref a) F.env) R s₃ := by
   rintro st₃ m s₃ xx R₃ ⟨st₄, tr, h₄⟩
   rw [hpl] at tr
   obtain ⟨z, R₄⟩ := rep_trim ok R₃ tr
   exact compE_sound ok he ht hpq xs (j + 1) st₄ _ s₃ h₄ e2 R₄ dI.mono da.mono fun more st' s' hk R' x' => fin (⟨[], z⟩ ++ more) st' s' hk (by rw [← Wd.append_assoc]; exact R') (xx.trans x')
  refine code_comp (iter_next ok Rp dI h1 h2 e1 fun s₁ u R₁ x₁ du => ?_)
  have hp1 : (st.led.set p (slot (j + 1)))[p]? = some (slot (j + 1)) := by rw [List.getElem?_set_self hplt]
  refine iter_letGo (v := v) (st := { st with led := st.led.set p (slot (j + 1)) }) ok R₁ dI hp1 (srck_set h1 h2) e3 du ?_
  refine bind_sound ok R₁ du h3 fun st₂ s₂ h₂ R₂ x₂ => ?_
  refine tests_sound ht R₂ h₂ fun c st₃ m1 s₃ h₃ R₃ x₃ => ?_
  have z := ifT_sound h₃
  have xx := (x₁.trans x₂).trans x₃
  split
  ·rename_i hct
   refine he _ st₃ _ (ads ++ m1) s₃ (fun c s' => match c with
    | .v y => wpAny (model prog w) F.A (call (.builtin "list.append") [.ref a, y]) (fun _ s₅ => codeAny (model prog w) F.A (.compLoop (.ListComp elt [⟨tgt, iter, ifs, 0⟩] sc pos) 0 (.ref I) (.ref a) F.env) R s₅) _ s'
    | _ => False) (z.1 hct) R₃ ?_
   intro r st₄ m2 c s₄ h₄ R₄ x₄ d₄
   cases r with
   | v y =>
    cases c with
    | v u' =>
     obtain ⟨ys, hq, hl, h₅⟩ := onLst_some h₄
     refine append_sound R₄ (da.mono.mono) hq d₄ hl fun h' R₅ => ?_
     refine nxt _ (m1 ++ m2) { s₄ with heap := h' } (xx.trans (x₄.trans (Nx.of_gens rfl rfl rfl))) ?_ h₅
     rw [← Wd.append_assoc]; exact R₅
    | _ => exact d₄.elim
   | _ => exact h₄.elim
  ·rename_i hct
   exact nxt st₃ m1 s₃ xx R₃ (z.2 (by simpa using hct))
noncomputable def CompFin (loc : List (Str × SV)) (p q : Nat) (stE : St) (k : SV → St → Prop) : Prop := ∃ ys ds st', stE.led[q]? = some (.list ys) ∧ frzs ys = some ds ∧ ds.length ≤ sizeLine ∧ Trim p ⟨loc, stE.led⟩ st' ∧ k (.dat (.list ds)) st'
theorem frzs_frzL {led : List SO} : ∀ {xs : List SV} {ds : List PyData}, frzs xs = some ds → FrzL led xs ds
 | [], _, h => by cases h; exact .nil
 | x :: xs, _, h => by
  unfold frzs at h
  split at h
  ·rename_i d hd
   split at h
   ·rename_i ds hds
    cases h
    refine .cons ?_ (frzs_frzL hds)
    cases x with
    | none => cases hd; exact .none
    | bool b => cases hd; exact .bool b
    | int i => cases hd; exact .int i
    | str s => cases hd; exact .str s
    | sg c es fs => cases hd; exact .sg c es fs
    | dat d => cases hd; exact .dat d
    | _ => cases hd
   ·cases h
  ·cases h
theorem mask_get {p q : Nat} {led : List SO} (h : p ≤ q) : (mask p led)[q]? = led[q]? := by
 unfold mask
 rw [List.getElem?_append_right (by rw [List.length_replicate]; exact h), List.length_replicate, List.getElem?_drop]
 congr 1; omega
theorem comp_sound {tgt iter elt : Expr} {ifs : List Expr} {sc : Scope} {pos : Pos} {use : Option (Value → Sem Unit)} {ksrc : SV → St → Prop} {k : SV → St → Prop} {Q : Value → Shared → Prop} (ok : FmOk C F) (hsc : scOk F.sc.names sc = true)
  (hset : ∀ x, foldedSetIterable iter F.env x = pure x)
  (hiter : ∀ Q' : CR → Shared → Prop, Then w F ads s (fun r st' => match r with | .v x => ksrc x st' | _ => False) Q' → wpAny (model prog w) F.A (eval iter F.env) (fun v s' => Q' (.v v) s') E s)
  (hsrc : ∀ v st₁, ksrc v st₁ → ∃ all slot el test, srcT st₁ v = some (all, slot) ∧
   compE (bindT (relab sc.names) tgt) test el v all slot st₁.led.length (st₁.led.length + 1) 0 all ⟨freesOf st₁.loc sc.names, st₁.led ++ [slot 0, .list []]⟩ (fun stE => CompFin st₁.loc st₁.led.length (st₁.led.length + 1) stE k) ∧
   (∀ F' : Fm, FmOk C F' → F'.A = F.A → F'.sc.names = relab sc.names → EvOk w F' elt el ∧ IfsOk w F' ifs test))
  (hfin : ∀ (m1 z : Wd) (st' : St) (d : PyData) (a Cc : Addr) (s' : Shared), k (.dat d) st' → Nx F s s' → (∃ m, s'.heap.Ns Cc m) → F.L ≠ Cc → Rep w F (ads ++ m1 ++ z) st' (hideAll s'.heap [Cc]) → Den F.B (ads ++ m1 ++ z) (.dat d) (.ref a) →
   compPost (model prog w) F.A E use Q (.ref a) Cc (.ok .next) s') :
  wpAny (model prog w) F.A (comprehension (.ListComp elt [⟨tgt, iter, ifs, 0⟩] sc pos) sc F.env iter.pos (newList []) false (eval iter F.env) use) Q E s := by
 obtain ⟨hk, hn⟩ := scOk_parts hsc
 refine wpAny_comprehension_free (g := ⟨tgt, iter, ifs, 0⟩) (gs := []) (cl := clOf F.env.cells sc.names []) rfl hset (closureFor_eq fun x hx hf => ok.cel2 x.1 ((hn x hx).2.2 hf).2) hk (fun x hx hl => (hn x hx).2.1 hl) ?_
 refine hiter (fun c s' => match c with
  | .v x => wpAny (model prog w) F.A (pyIter x) _ E s'
  | _ => False) ?_
 intro r st₁ m1 c s₁ h₁ R₁ x₁ d₁
 cases r with
 | v src =>
  cases c with
  | v u =>
   obtain ⟨all, slot, el, test, hs, hc, hev⟩ := hsrc src st₁ h₁
   refine iter_start ok R₁ d₁ hs fun s₂ R₂ x₂ => ?_
   refine wpAny_newObj_type ?_
   generalize hp : s₁.heap.objs.size = I at R₂
   have R₃ : Rep w F ((ads ++ m1 ++ .one I 0) ++ .one s₂.heap.objs.size 0) { st₁ with led := st₁.led ++ [slot 0] ++ [.list []] } (s₂.heap.push { cls := .type "list", dict := none, data := .seq ([] : List Value).toArray }) :=
    rep_push (st := { st₁ with led := st₁.led ++ [slot 0] }) (o := { cls := .type "list", dict := none, data := .seq ([] : List Value).toArray }) rfl R₂ (One.list (vs := []) (n := 0) .nil)
   generalize hs3 : ({ s₂ with heap := s₂.heap.push { cls := .type "list", dict := none, data := .seq ([] : List Value).toArray } } : Shared) = s₃
   have hh3 : s₃.heap = s₂.heap.push { cls := .type "list", dict := none, data := .seq ([] : List Value).toArray } := by rw [← hs3]
   have x₃ : Nx F s₂ s₃ := by rw [← hs3]; exact Nx.of_gens rfl rfl rfl
   rw [← hh3] at R₃
   have len1 : st₁.led.length = (ads ++ m1).ads.length := led_len' R₁
   refine wpAny_newFunctionEnv (fun x hx => (hn x hx).1) (by intro y hy; simp at hy) (fun h₁' hns hsb => ?_) hk
   obtain ⟨F', ok', eA, eE, ⟨eB, eQ⟩, eN, R₄, back, nsC⟩ := comp_enter ok hsc R₃ hns hsb
   obtain ⟨hel, hif⟩ := hev F' ok' eA eN
   show codeAny (model prog w) F.A (.compStart _ 0 (.ref I) (.ref s₂.heap.objs.size) (compEnvC sc (clOf F.env.cells sc.names []) s₃.heap.objs.size F.env)) (compPost (model prog w) F.A E use Q (.ref s₂.heap.objs.size) s₃.heap.objs.size) _
   rw [← eE, ← eA]
   let p := st₁.led.length
   have e12 : st₁.led ++ [slot 0] ++ [SO.list []] = st₁.led ++ [slot 0, .list []] := by simp
   rw [e12] at R₄ back
   have dI : Den F'.B ((ads ++ m1 ++ .one I 0) ++ .one s₂.heap.objs.size 0) (.obj p) (.ref I) := by
    refine Den.mono ⟨(I, 0), ?_, rfl⟩
    show (ads ++ m1 ++ Wd.one I 0).ads[st₁.led.length]? = _
    rw [len1]; rw [Wd.ads_append]; simp [Wd.one]
   have dq : Den F'.B ((ads ++ m1 ++ .one I 0) ++ .one s₂.heap.objs.size 0) (.obj (p + 1)) (.ref s₂.heap.objs.size) := by
    refine ⟨(s₂.heap.objs.size, 0), ?_, rfl⟩
    have : st₁.led.length + 1 = (ads ++ m1 ++ Wd.one I 0).ads.length := by rw [Wd.ads_append, List.length_append, ← len1]; rfl
    show ((ads ++ m1 ++ Wd.one I 0) ++ Wd.one s₂.heap.objs.size 0).ads[st₁.led.length + 1]? = _
    rw [this, Wd.ads_append]; simp [Wd.one]
   have hslot : (st₁.led ++ [slot 0, SO.list []])[p]? = some (slot 0) := by simp [p]
   have hsrc2 : SrcK ⟨freesOf st₁.loc sc.names, st₁.led ++ [slot 0, .list []]⟩ src all slot ∧ srcT ⟨freesOf st₁.loc sc.names, st₁.led ++ [slot 0, .list []]⟩ src = some (all, slot) := by
    have : srcT ⟨freesOf st₁.loc sc.names, st₁.led ++ [slot 0, .list []]⟩ src = some (all, slot) := by
     cases src <;> first | exact hs | skip
     ·rename_i i
      replace hs : srcO (.obj i) st₁.led[i]? = some (all, slot) := hs
      have hlt : i < st₁.led.length := by
       cases q : st₁.led[i]? with
       | none => rw [q] at hs; cases hs
       | some o => exact (List.getElem?_eq_some_iff.mp q).1
      show srcO (.obj i) (st₁.led ++ [slot 0, SO.list []])[i]? = _
      rw [List.getElem?_append_left hlt]
      exact hs
    exact ⟨srcT_kind this, this⟩
   have loop : ∀ s₄ : Shared, s₄.heap = h₁' → Nx F s s₄ → codeAny (model prog w) F'.A (.compLoop (.ListComp elt [⟨tgt, iter, ifs, 0⟩] sc pos) 0 (.ref I) (.ref s₂.heap.objs.size) F'.env) (compPost (model prog w) F'.A E use Q (.ref s₂.heap.objs.size) s₃.heap.objs.size) s₄ := by
    intro s₄ e4 x4
    refine compE_sound (F := F') ok' hel hif (p := p) (q := p + 1) (Nat.lt_succ_self _) all 0 _ _ s₄ (by rw [eN]; exact hc) rfl (by rw [e4]; exact R₄) dI dq fun more stE s₅ hf R₅ x₅ => ?_
    obtain ⟨ys, ds, st', hq, hy, hl, tr, hk'⟩ := hf
    rw [eA]
    obtain ⟨oL, hoL⟩ := rep_L R₁
    obtain ⟨mC, hC⟩ := nsC _ _ _ R₅
    have W0 : ((ads ++ m1 ++ .one I 0) ++ .one s₂.heap.objs.size 0) ++ more = (ads ++ m1) ++ ((Wd.one I 0 ++ .one s₂.heap.objs.size 0) ++ more) := by simp only [Wd.append_assoc]
    have tr' : Trim (ads ++ m1).ads.length ⟨st₁.loc, stE.led⟩ st' := by rw [← len1]; exact tr
    have fz : SvT (ads ++ m1).ads.length stE.led (.obj (p + 1)) (svOf (.list ds)) := by
     refine .frz (.list (xs := ys) ?_ ?_ (frzs_frzL hy))
     ·rw [← len1, mask_get (Nat.le_succ _)]; exact hq
     ·have : ys.length = ds.length := by
       have := FrzL.length (frzs_frzL (led := []) hy); exact this.symm
      omega
    have dq' : Den F.B ((ads ++ m1) ++ ((Wd.one I 0 ++ .one s₂.heap.objs.size 0) ++ more)) (.obj (p + 1)) (.ref s₂.heap.objs.size) := by
     rw [← W0, ← eB]; exact dq.mono
    rw [W0] at R₅
    obtain ⟨z, R₆, den⟩ := rep_trimV (st' := ⟨[], st'.led⟩) ok' R₅ ⟨(fun x y h => nomatch h), tr'.led⟩
    rw [eB] at den
    have bk : Rep w F (ads ++ m1 ++ (⟨[], z⟩ : Wd)) st' (hideAll s₅.heap [s₃.heap.objs.size]) :=
     back _ [] st'.loc st'.led s₅.heap _ R₆ (fun b o hb e => hideAll_get _ e (by simpa using hb)) fun x y hx => by
      obtain ⟨z0, a, b⟩ := tr'.loc x y hx
      refine ⟨z0, a, fun v d => den z0 y v b ?_⟩
      rw [← W0]; exact d.mono
    exact hfin m1 ⟨[], z⟩ st' (.list ds) s₂.heap.objs.size s₃.heap.objs.size s₅ hk' (x4.trans (show NxB F.quiet s₄ s₅ by rw [← eQ]; exact x₅)) ⟨mC, hC⟩ (by
     obtain ⟨oL', hL'⟩ := rep_L R₃
     exact Nat.ne_of_lt (Heap.lt_size hL')) bk (den _ _ _ fz dq')
   have x4 : ∀ h t, Nx F s ({ s₃ with heap := h, toks := t } : Shared) := fun h t => ((x₁.trans x₂).trans x₃).trans (Nx.of_gens rfl rfl rfl)
   refine codeAny_compStart_list (loop _ rfl (x4 _ _)) ?_
   refine iter_again (s := { s₃ with heap := h₁', toks := _ }) ok' R₄ dI hslot hsrc2.2 ?_
   exact loop _ rfl (x4 _ _)
  | _ => exact d₁.elim
 | _ => exact h₁.elim
theorem rep_unhide {st : St} {W : Wd} {h h'' : Heap} {Cc : Addr} (R : Rep w F W st (hideAll h [Cc])) (hs : Heap.SameBut Cc h h'') : Rep w F W st h'' := by
 refine rep_same R fun b o e => ?_
 have hb : b ≠ Cc := fun q => by
  subst q
  rw [hideAll_none _ (by simp)] at e; cases e
 exact (hs.2 b hb).trans (of_hideAll _ e)
theorem rep_store_use {st : St} {x : Str} {v : SV} {u : Value} {W : Wd} {Cc : Addr} {Q : Unit → Shared → Prop} (ok : FmOk C F) (R : Rep w F W st (hideAll s.heap [Cc])) (hC : ∃ m, s.heap.Ns Cc m) (hne : F.L ≠ Cc) (d : Den F.B W v u) (hl : F.sc.names.lookup x = some .local)
  (h : ∀ h₁ t, (∃ m, h₁.Ns Cc m) → (∀ h'', Heap.SameBut Cc h₁ h'' → Rep w F W { st with loc := put x v st.loc } h'') → Q () { s with heap := h₁, toks := t }) : wpAny (model prog w) F.A (storeName F.env x u) Q E s := by
 obtain ⟨m, news, lw, X⟩ := R
 have notC : ∀ b o, (hideAll s.heap [Cc]).get? b = some o → b ≠ Cc := fun b o e q => by
  subst q
  rw [hideAll_none _ (by simp)] at e; cases e
 have nsL : s.heap.Ns F.L m := X.fr.ns.at' fun o q => of_hideAll _ q
 have ns : s.heap.Ns F.env.locals m := by rw [ok.loc]; exact nsL
 refine wpAny_storeName_local hl ns (fun h₁ hn hs => ?_) (by rw [show F.env.scope.kind = .function from ok.kind]; rfl)
 rw [ok.loc] at hn hs
 obtain ⟨mC, hmC⟩ := hC
 refine h h₁ _ ⟨mC, hmC.sameBut hs (Ne.symm hne)⟩ fun h'' hs'' => ?_
 have keep : ∀ b o, b ≠ F.L → (hideAll s.heap [Cc]).get? b = some o → h''.get? b = some o := fun b o hb e => (hs''.2 b (notC b o e)).trans ((hs.2 b hb).trans (of_hideAll _ e))
 refine ⟨_, news, lw, ⟨hn.sameBut hs'' hne, fun b o q => keep b o (fun e => ?_) (X.fr.keep b o q), X.fr.above⟩, fun p hp => ?_, ?_, X.led, X.nd, X.ups⟩
 ·subst e
  exact absurd (Heap.lt_size q) (Nat.not_lt.mpr X.fr.above)
 ·have z := X.nw p hp
  exact ⟨keep _ _ z.2.1 z.1, z.2⟩
 ·have e : locM F.env (fun y => if y = x then some u else m y) = fun y => if y = x then some u else locM F.env m y := by
   funext y
   unfold locM
   by_cases q : y = x
   ·subst q; rw [ok.cel y hl]
   ·simp only [if_neg q]
  rw [e]
  exact X.loc.set d
end
section
variable {w : World} {C : Cf} {F : Fm} {ads : Wd} {s : Shared} {st : St} {A : Around} {E : Value → Shared → Prop}
theorem dicO_here {o : Obj} {kvs : List (Str × Value)} (h : DicO w.params o kvs) : o.IsDictOf (strKind prog w) kvs := by
 obtain ⟨p', w', e, es, ep, h1, h2, h3, h4, h5⟩ := h
 have hh : ∀ x, hashStr w' x = hashStr w x := fun x => by unfold hashStr; rw [e]
 refine ⟨es, ep, h1, h2, ?_, ?_, h5⟩
 ·intro e he
  obtain ⟨k, a, b⟩ := h3 e he
  exact ⟨k, a, b.trans (hh k)⟩
 ·revert h4
  generalize es.toList = l
  intro h4
  clear h1 h2 h3 h5
  induction h4 with
  | nil => exact .nil
  | cons a b _ ih => exact .cons a b ih
theorem kv_put {B : Heap} {G : Wd} {x : Str} {sv : SV} {v : Value} (d : Den B G sv v) : ∀ {fs : List (Str × SV)} {kvs : List (Str × Value)}, KvR B G fs kvs → (kvs.map (·.1)).Nodup → KvR B G (put x sv fs) (stored kvs x v)
 | _, _, .nil, _ => .cons d .nil
 | _, _, .cons (x := y) (v := u) (fs := fs) (kvs := kvs) d' r, nd => by
  rw [List.map_cons, List.nodup_cons] at nd
  unfold put
  cases q : Fast.sEq x y with
  | true =>
   have e := sEq_true q
   subst e
   have hno : ∀ p ∈ kvs, p.1 ≠ x := fun p hp e => nd.1 (List.mem_map.mpr ⟨p, hp, e⟩)
   have e2 : stored ((x, u) :: kvs) x v = (x, v) :: kvs := by
    unfold stored
    rw [if_pos (by simp), List.map_cons, if_pos rfl]
    congr 1
    conv => rhs; rw [← List.map_id kvs]
    refine List.map_congr_left fun p hp => ?_
    rw [if_neg (hno p hp)]; rfl
   rw [e2]
   exact .cons d r
  | false =>
   have hne : ¬ y = x := fun e => sEq_false q e.symm
   have e2 : stored ((y, u) :: kvs) x v = (y, u) :: stored kvs x v := by
    unfold stored
    simp only [List.any_cons, decide_eq_false hne, Bool.false_or, List.map_cons, if_neg hne]
    split <;> rfl
   rw [e2]
   exact .cons d' (kv_put d r nd.2)
theorem dic_new {Q : Value → Shared → Prop} {env : Env} {pos : Pos} (R : Rep w F ads st s.heap) (hQ : ∀ s', Rep w F (ads ++ .one s.heap.objs.size 0) { st with led := st.led ++ [.dic []] } s'.heap → Nx F s s' → Q (.ref s.heap.objs.size) s') : wpAny (model prog w) A (eval (.Dict [] [] pos) env) Q E s := by
 refine wpAny_Dict_empty (hQ _ (rep_push rfl R (.dic (kvs := []) ⟨prog, w, rfl, ?_⟩ .nil)) (Nx.of_gens rfl rfl rfl))
 exact ⟨#[], 0, ⟨rfl, rfl, rfl⟩, rfl, (fun _ he => by simp at he), Pairs.nil, List.nodup_nil⟩
theorem dic_set {i : Nat} {fs : List (Str × SV)} {x : Str} {t : Tok} {sv : SV} {u v : Value} {Q : Unit → Shared → Prop} (R : Rep w F ads st s.heap) (d : Den F.B ads (.obj i) u) (hi : st.led[i]? = some (.dic fs)) (dv : Den F.B ads sv v) (hl : fs.length ≤ sizeLine)
  (hQ : ∀ h' t', Rep w F ads { st with led := st.led.set i (.dic (put x sv fs)) } h' → Q () { s with heap := h', toks := t' }) : wpAny (model prog w) A (setItem u (.str x t) v) Q E s := by
 obtain ⟨m, news, lw, pre, ps, post, a, dd, X, h1, h2, h3, h4⟩ := rep_at R hi
 obtain ⟨p, hp, rfl⟩ := d
 rw [h2] at hp; cases hp
 obtain ⟨o, kvs, hd, hk, rfl⟩ := h3.inv
 ·have hd' := dicO_here (w := w) hd
  have ho := (X.nw (a, o) (by rw [h1]; simp)).1
  refine wpAny_setItem_pairs (knd := strKind prog w) (hkey := strKind_is prog w x t) (Heap.dictOf_iff.mpr ⟨o, ho, hd'⟩) (fun h' hm hs => ?_) (by rw [hk.length]; exact hl)
  obtain ⟨o', ho', hd''⟩ := Heap.dictOf_iff.mp hm
  exact hQ h' _ (rep_set1 X h1 (h4 _ _ (One.dic ⟨prog, w, rfl, hd''⟩ (kv_put dv hk (by obtain ⟨_, _, _, _, _, _, nd⟩ := hd'; exact nd)))) ho' fun b hb o q => (hs.2 b hb).trans q)
end
set_option maxHeartbeats 1000000
theorem trimK {n : Nat} {loc more : List (Str × SV)} {led led' : List SO} (hl : okF n loc) (h : SosT n led (led.take n) led') : Trim n ⟨loc ++ more, led⟩ ⟨loc, led'⟩ :=
 ⟨fun x y hx => ⟨y, lk_append hx, svT_refl (okF_mem hl _ (lk_mem hx))⟩, h⟩
theorem sosT_app {n : Nat} {led : List SO} : ∀ {a b c d : List SO}, SosT n led a b → SosT n led c d → SosT n led (a ++ c) (b ++ d) := by
 intro a b c d r h
 induction r with
 | nil => exact h
 | cons x _ ih => exact .cons x ih
theorem svsT_svOf (n : Nat) (led : List SO) : ∀ l : List PyData, SvsT n led (l.map svOf) (l.map svOf)
 | [] => .nil
 | d :: r => .cons (.same (by cases d <;> trivial)) (svsT_svOf n led r)
theorem frzs_svOf : ∀ l : List PyData, frzs (l.map svOf) = some l
 | [] => rfl
 | d :: r => by
  show (match frz1 (svOf d) with | some d => (match frzs (r.map svOf) with | some ds => some (d :: ds) | none => none) | none => none) = _
  rw [frz1_svOf, frzs_svOf r]
theorem comp_gen {bnd : SV → St → (St → Prop) → Prop} {test : Option (St → Kt → Prop)} {elt : St → Kt → Prop} {src : SV} {all : List SV} {slot : Nat → SO} {fl : List (Str × SV)} {pre : List SO} (loc : List (Str × SV)) (kk : SV → St → Prop) (g : Nat → Option PyData)
  (hpre : ∀ n led, pre.length ≤ n → SosT n led pre pre) (hfl : okF pre.length fl) (hloc : okF pre.length loc) (hslot : ∀ n led j, pre.length ≤ n → SoT n led (slot j) (slot j))
  (hsrc : ∀ a b, srcT ⟨fl, pre ++ [a, b]⟩ src = some (all, slot)) (hlen : all.length ≤ sizeLine)
  (step : ∀ i x zs (K : Kt) (D : St → Prop), all[i]? = some x → (∀ d, g i = some d → ∀ more extra, K (.v (svOf d)) ⟨fl ++ more, pre ++ (slot (i + 1) :: .list zs :: extra)⟩) → (g i = none → ∀ more extra, D ⟨fl ++ more, pre ++ (slot (i + 1) :: .list zs :: extra)⟩) →
   bnd x ⟨fl, pre ++ [slot (i + 1), .list zs]⟩ fun st₁ => testE test st₁ fun c st₂ => ifT c (elt st₂ K) (D st₂))
  (hk : kk (.dat (.list ((List.range all.length).filterMap g))) ⟨loc, pre⟩) :
  compE bnd test elt src all slot pre.length (pre.length + 1) 0 all ⟨fl, pre ++ [slot 0, .list []]⟩ (fun stE => CompFin loc pre.length (pre.length + 1) stE kk) := by
 have okm : ∀ {m n : Nat} {f : List (Str × SV)}, m ≤ n → okF m f → okF n f := by
  intro m n f hmn
  induction f with
  | nil => exact fun _ => trivial
  | cons p r ih =>
   obtain ⟨a, v⟩ := p
   refine fun h => ⟨?_, ih h.2⟩
   have h1 := h.1
   cases v <;> first | exact Nat.lt_of_lt_of_le h1 hmn | trivial
 have getp : ∀ (a : SO) (r : List SO), (pre ++ a :: r)[pre.length]? = some a := fun a r => by simp
 have getq : ∀ (a b : SO) (r : List SO), (pre ++ a :: b :: r)[pre.length + 1]? = some b := fun a b r => by
  rw [List.getElem?_append_right (by lia)]; simp
 have setp : ∀ (a b : SO) (r : List SO), (pre ++ a :: r).set pre.length b = pre ++ b :: r := fun a b r => by
  have e : ∀ (l : List SO), (l ++ a :: r).set l.length b = l ++ b :: r := fun l => by
   induction l with
   | nil => rfl
   | cons y l ih => show y :: (l ++ a :: r).set l.length b = _; rw [ih]; rfl
  exact e pre
 have setq : ∀ (a b c : SO) (r : List SO), (pre ++ a :: b :: r).set (pre.length + 1) c = pre ++ a :: c :: r := fun a b c r => by
  have e : ∀ (l : List SO), (l ++ a :: b :: r).set (l.length + 1) c = l ++ a :: c :: r := fun l => by
   induction l with
   | nil => rfl
   | cons y l ih => show y :: (l ++ a :: b :: r).set (l.length + 1) c = _; rw [ih]; rfl
  exact e pre
 have loop : ∀ (rest : List SV) (j : Nat) (done : List PyData), (∀ i, rest[i]? = all[j + i]?) → j + rest.length = all.length → done = (List.range j).filterMap g → done.length ≤ j →
   compE bnd test elt src all slot pre.length (pre.length + 1) j rest ⟨fl, pre ++ [slot j, .list (done.map svOf)]⟩ (fun stE => CompFin loc pre.length (pre.length + 1) stE kk) := by
  intro rest
  induction rest with
  | nil =>
   intro j done h1 h2 h3 h4
   have hj : j = all.length := by simpa using h2
   refine ⟨getp _ _, hsrc _ _, ?_⟩
   show CompFin loc pre.length (pre.length + 1) ⟨fl, (pre ++ [slot j, .list (done.map svOf)]).set pre.length .gone⟩ kk
   rw [setp]
   refine ⟨done.map svOf, done, ⟨loc, pre⟩, getq _ _ _, frzs_svOf _, by lia, ?_, ?_⟩
   ·have := trimK (n := pre.length) (loc := loc) (more := []) (led := pre ++ [.gone, .list (done.map svOf)]) (led' := pre) hloc (by rw [List.take_left]; exact hpre _ _ (Nat.le_refl _))
    rw [List.append_nil] at this
    exact this
   ·rw [h3, hj]; exact hk
  | cons x r ih =>
   intro j done h1 h2 h3 h4
   rw [List.length_cons] at h2
   refine ⟨getp _ _, hsrc _ _, ?_⟩
   show bnd x ⟨fl, (pre ++ [slot j, .list (done.map svOf)]).set pre.length (slot (j + 1))⟩ _
   rw [setp]
   have hx : all[j]? = some x := by have := h1 0; simpa using this.symm
   have hlen2 : (pre ++ [slot j, SO.list (done.map svOf)]).length = pre.length + 2 := by simp
   refine step j x (done.map svOf) _ _ hx (fun d hd more extra => ?_) fun hd more extra => ?_
   ·show appT (pre.length + 1) (svOf d) ⟨fl ++ more, pre ++ (slot (j + 1) :: .list (done.map svOf) :: extra)⟩ _
    show onLst (pre ++ slot (j + 1) :: .list (done.map svOf) :: extra)[pre.length + 1]? _
    rw [getq]
    refine ⟨by rw [List.length_map]; lia, ⟨fl, pre ++ [slot (j + 1), .list ((done ++ [d]).map svOf)]⟩, ?_, ?_⟩
    ·show Trim (pre ++ [slot j, SO.list (done.map svOf)]).length ⟨fl ++ more, (pre ++ slot (j + 1) :: .list (done.map svOf) :: extra).set (pre.length + 1) (.list (done.map svOf ++ [svOf d]))⟩ _
     rw [setq, hlen2]
     have e1 : done.map svOf ++ [svOf d] = (done ++ [d]).map svOf := by simp
     rw [e1]
     refine trimK (okm (by lia) hfl) ?_
     have e2 : List.take (pre.length + 2) (pre ++ slot (j + 1) :: SO.list ((done ++ [d]).map svOf) :: extra) = pre ++ [slot (j + 1), .list ((done ++ [d]).map svOf)] := by
      rw [List.take_append, List.take_of_length_le (by lia), show pre.length + 2 - pre.length = 2 by lia]; rfl
     rw [e2]
     exact sosT_app (hpre _ _ (by lia)) (.cons (hslot _ _ _ (by lia)) (.cons (.list (svsT_svOf _ _ _)) .nil))
    ·refine ih (j + 1) (done ++ [d]) (fun i => ?_) (by lia) ?_ (by simp; lia)
     ·have := h1 (i + 1)
      rw [List.getElem?_cons_succ] at this
      rw [this]; congr 1; lia
     ·rw [List.range_succ, List.filterMap_append, ← h3]
      simp [hd]
   ·refine ⟨⟨fl, pre ++ [slot (j + 1), .list (done.map svOf)]⟩, ?_, ?_⟩
    ·show Trim (pre ++ [slot j, SO.list (done.map svOf)]).length ⟨fl ++ more, pre ++ slot (j + 1) :: .list (done.map svOf) :: extra⟩ _
     rw [hlen2]
     refine trimK (okm (by lia) hfl) ?_
     have e2 : List.take (pre.length + 2) (pre ++ slot (j + 1) :: SO.list (done.map svOf) :: extra) = pre ++ [slot (j + 1), .list (done.map svOf)] := by
      rw [List.take_append, List.take_of_length_le (by lia), show pre.length + 2 - pre.length = 2 by lia]; rfl
     rw [e2]
     exact sosT_app (hpre _ _ (by lia)) (.cons (hslot _ _ _ (by lia)) (.cons (.list (svsT_svOf _ _ _)) .nil))
    ·refine ih (j + 1) done (fun i => ?_) (by lia) ?_ (by lia)
     ·have := h1 (i + 1)
      rw [List.getElem?_cons_succ] at this
      rw [this]; congr 1; lia
     ·rw [List.range_succ, List.filterMap_append, ← h3]
      simp [hd]
 exact loop all 0 [] (fun i => by simp) (by simp) rfl (Nat.le_refl _)
set_option maxHeartbeats 200000
noncomputable def strOf (x : SV) : Option Str := match x with
 | .str s => some s
 | .sg c _ _ => some (sgS c)
 | _ => none
noncomputable def addT (x y : SV) (k : SV → Prop) : Prop := match x with
 | .int a => match y with
  | .int b => k (.int (a + b))
  | _ => False
 | _ => onOpt (strOf x) fun a => onOpt (strOf y) fun b => a.length + b.length ≤ sizeLine ∧ k (.str (a ++ b))
noncomputable def binT (op : Operator) (x y : SV) (k : SV → Prop) : Prop := match op with
 | .Add => addT x y k
 | .Sub => match x, y with
  | .int a, .int b => k (.int (a - b))
  | _, _ => False
 | .Mod => match x, y with
  | .int a, .int b => b ≠ 0 ∧ k (.int (a.fmod b))
  | _, _ => False
 | .FloorDiv => match x, y with
  | .int a, .int b => (b ≠ 0 ∧ b.natAbs < 1073741824) ∧ k (.int (a.fdiv b))
  | _, _ => False
 | _ => False
noncomputable def strsIn (a : Str) : List SV → Option Bool
 | [] => some false
 | .str b :: r => (strsIn a r).map fun c => (b == a) || c
 | _ => none
noncomputable def eqS (x y : SV) : Option Bool := match x with
 | .sg c es _ => match y with
  | .str b => match lk b es with
   | some r => some r
   | none => some (Fast.sEq (sgS c) b)
  | _ => none
 | .str a => match y with
  | .sg c es _ => match lk a es with
   | some r => some r
   | none => some (Fast.sEq a (sgS c))
  | .str b => some (Fast.sEq a b)
  | _ => none
 | _ => none
noncomputable def inS (x y : SV) : Option Bool := match y with
 | .str b => match x with
  | .sg c _ fs => match lk b fs with
   | some r => some r
   | none => some (inB (sgS c) b)
  | .str a => some (inB a b)
  | _ => none
 | _ => none
noncomputable def eqT (x y : SV) : Option Bool := match x with
 | .int a => match y with
  | .int b => some (a == b)
  | _ => none
 | .none => match y with
  | .none => some true
  | .str _ => some false
  | _ => none
 | .str a => match y with
  | .none => some false
  | _ => eqS (.str a) y
 | .sg c es fs => match y with
  | .none => some false
  | _ => eqS (.sg c es fs) y
 | _ => none
noncomputable def isNT (x y : SV) : Option Bool := match y with
 | .none => match x with
  | .none => some true
  | .str _ => some false
  | .sg .. => some false
  | .int _ => some false
  | .bool _ => some false
  | .obj _ => some false
  | _ => none
 | .val v => match v with
  | .type b => match x with
   | .val u => match u with
    | .type a => some (Value.type a == Value.type b)
    | _ => none
   | _ => none
  | _ => none
 | _ => none
noncomputable def onO (o : Option Bool) (k : Bool → Prop) : Prop := match o with
 | some c => k c
 | none => False
noncomputable def cmpT (st : St) (op : CmpOp) (x y : SV) (k : Bool → Prop) : Prop := match op with
 | .Eq => onO (eqT x y) k
 | .NotEq => match x with
  | .int a => match y with
   | .int b => k (a != b)
   | _ => False
  | _ => onO (eqS x y) fun b => k (!b)
 | .In => match y with
  | .obj i => match x with
   | .str a => onTup st.led[i]? fun xs => onO (strsIn a xs) k
   | _ => False
  | _ => onO (inS x y) k
 | .NotIn => onO (inS x y) fun b => k (!b)
 | .Is => onO (isNT x y) k
 | .IsNot => onO (isNT x y) fun b => k (!b)
 | .GtE => match x with
  | .int a => match y with
   | .int b => k (decide (b ≤ a))
   | _ => False
  | _ => False
 | .Gt => match x with
  | .int a => match y with
   | .int b => k (decide (b < a))
   | _ => False
  | _ => False
 | .Lt => match x with
  | .int a => match y with
   | .int b => k (decide (a < b))
   | _ => False
  | _ => False
 | _ => False
noncomputable abbrev dequeO (a b : Value) : Obj := { cls := .type "collections.deque", data := .fields #[a, b] }
noncomputable def isDeque (o : Obj) : Bool := match o.cls with
 | .type c => match o.dict with
  | none => match o.data with
   | .fields vs => match vs.toList with
    | [] => false
    | _ :: r => match r with
     | [] => false
     | _ :: r => match r with
      | [] => match o.slots.toList with
       | [] => c == "collections.deque"
       | _ :: _ => false
      | _ :: _ => false
   | _ => false
  | some _ => false
 | _ => false
noncomputable def truthT (st : St) (x : SV) (k : Bool → Prop) : Prop := match x with
 | .none => k false
 | .bool b => k b
 | .int i => k (i != 0)
 | .str s => k ((s.length : Int) != 0)
 | .sg .. => k true
 | .obj i => onRaw st.led[i]? fun o => onTr (isDeque o) (k false)
 | _ => False
section ops
variable {w : World} {F : Fm} {E : Value → Shared → Prop} {s : Shared} {ads : Wd} {st : St}
theorem strOf_den {B : Heap} {x : SV} {v : Value} {a : Str} (d : Den B ads x v) (h : strOf x = some a) : (∃ t, v = .str a t) ∧ a.length ≤ sizeLine := by
 cases x <;> first | exact no_some h | (obtain rfl := Option.some.inj h)
 ·exact d
 ·exact ⟨d.1, by rw [sgS_len, sizeLine_eq]; lia⟩
theorem addT_cases {x y : SV} {k : SV → Prop} (h : addT x y k) : (∃ a b, x = .int a ∧ y = .int b ∧ k (.int (a + b))) ∨ (∃ a b, strOf x = some a ∧ strOf y = some b ∧ a.length + b.length ≤ sizeLine ∧ k (.str (a ++ b))) := by
 have fin : onOpt (strOf x) (fun a => onOpt (strOf y) fun b => a.length + b.length ≤ sizeLine ∧ k (.str (a ++ b))) → (∃ a b, strOf x = some a ∧ strOf y = some b ∧ a.length + b.length ≤ sizeLine ∧ k (.str (a ++ b))) := fun h => by
  obtain ⟨a, ha, h⟩ := onOpt_some h
  obtain ⟨b, hb, h⟩ := onOpt_some h
  exact ⟨a, b, ha, hb, h⟩
 cases x <;> first | exact .inr (fin h) | skip
 cases y <;> first | exact False.elim h | exact .inl ⟨_, _, rfl, rfl, h⟩
theorem add_sound {B : Heap} {A : Around} {x y : SV} {a b : Value} {k : SV → Prop} {Q : Value → Shared → Prop} (dx : Den B ads x a) (dy : Den B ads y b) (h : addT x y k)
  (hQ : ∀ r v t, k r → Den B ads r v → Q v { s with toks := t }) : wpAny (model prog w) A (binaryOp .Add a b) Q E s := by
 rcases addT_cases h with ⟨a, b, rfl, rfl, h⟩ | ⟨a, b, ha, hb, h⟩
 ·obtain ⟨t, rfl⟩ := dx; obtain ⟨u, rfl⟩ := dy
  exact PyProof.Rows.add_int (hQ _ _ _ h ⟨_, rfl⟩)
 ·obtain ⟨⟨t, rfl⟩, lx⟩ := strOf_den dx ha; obtain ⟨⟨u, rfl⟩, ly⟩ := strOf_den dy hb
  exact SBL.add (fun t' kk hl => hQ _ _ _ h.2 ⟨⟨_, rfl⟩, Nat.le_trans hl.2 h.1⟩) h.1
theorem iadd_sound {B : Heap} {A : Around} {x y : SV} {a b : Value} {k : SV → Prop} {Q : Value → Shared → Prop} (dx : Den B ads x a) (dy : Den B ads y b) (h : addT x y k)
  (hQ : ∀ r v t, k r → Den B ads r v → Q v { s with toks := t }) : wpAny (model prog w) A (inplaceOp .Add a b) Q E s := by
 rcases addT_cases h with ⟨a, b, rfl, rfl, h⟩ | ⟨a, b, ha, hb, h⟩
 ·obtain ⟨t, rfl⟩ := dx; obtain ⟨u, rfl⟩ := dy
  exact iadd_int (hQ _ _ _ h ⟨_, rfl⟩)
 ·obtain ⟨⟨t, rfl⟩, lx⟩ := strOf_den dx ha; obtain ⟨⟨u, rfl⟩, ly⟩ := strOf_den dy hb
  exact SBL.iadd (fun t' kk hl => hQ _ _ _ h.2 ⟨⟨_, rfl⟩, Nat.le_trans hl.2 h.1⟩) h.1
theorem sEq_comm (a b : Str) : Fast.sEq a b = Fast.sEq b a := by
 rw [← beq_sEq, ← beq_sEq]; exact Bool.beq_comm
theorem onO_some {o : Option Bool} {k : Bool → Prop} (h : onO o k) : ∃ c, o = some c ∧ k c := by
 cases o with
 | none => exact h.elim
 | some c => exact ⟨c, rfl, h⟩
theorem lk_or {es : List (Str × Bool)} {x : Str} {d c r : Bool} (h : (match lk x es with | some r => some r | none => some d) = some c) (e : ∀ p ∈ es, p.1 = x → r = p.2) (hd : r = d) : r = c := by
 cases q : lk x es with
 | some u => rw [q] at h; obtain rfl := Option.some.inj h; exact e _ (lk_mem q) rfl
 | none => rw [q] at h; obtain rfl := Option.some.inj h; exact hd
theorem eqS_sound {B : Heap} {x y : SV} {a b : Value} {c : Bool} (dx : Den B ads x a) (dy : Den B ads y b) (h : eqS x y = some c) : ∃ u v t t', a = .str u t ∧ b = .str v t' ∧ (u == v) = c := by
 cases x <;> first | exact no_some h | skip
 ·cases y <;> first | exact no_some h | skip
  ·obtain ⟨⟨t, rfl⟩, _⟩ := dx
   obtain ⟨⟨t', rfl⟩, _⟩ := dy
   obtain rfl := Option.some.inj h
   exact ⟨_, _, t, t', rfl, rfl, beq_sEq _ _⟩
  ·obtain ⟨⟨t, rfl⟩, _⟩ := dx
   obtain ⟨⟨t', rfl⟩, e1, _⟩ := dy
   refine ⟨_, _, t, t', rfl, rfl, ?_⟩
   rw [beq_sEq]
   exact lk_or h (fun p hp e => by rw [← e, sEq_comm]; exact e1 p hp) rfl
 ·cases y <;> first | exact no_some h | skip
  obtain ⟨⟨t, rfl⟩, e1, _⟩ := dx
  obtain ⟨⟨t', rfl⟩, _⟩ := dy
  refine ⟨_, _, t, t', rfl, rfl, ?_⟩
  rw [beq_sEq]
  exact lk_or h (fun p hp e => by rw [← e]; exact e1 p hp) rfl
theorem inS_sound {B : Heap} {x y : SV} {a b : Value} {c : Bool} (dx : Den B ads x a) (dy : Den B ads y b) (h : inS x y = some c) : ∃ u v t t', a = .str u t ∧ b = .str v t' ∧ inB u v = c := by
 cases y <;> first | exact no_some h | skip
 obtain ⟨⟨t', rfl⟩, _⟩ := dy
 cases x <;> first | exact no_some h | skip
 ·obtain ⟨⟨t, rfl⟩, _⟩ := dx
  obtain rfl := Option.some.inj h
  exact ⟨_, _, t, t', rfl, rfl, rfl⟩
 ·obtain ⟨⟨t, rfl⟩, _, e1⟩ := dx
  exact ⟨_, _, t, t', rfl, rfl, lk_or h (fun p hp e => by rw [← e]; exact e1 p hp) rfl⟩
theorem isNT_sound {B : Heap} {x y : SV} {a b : Value} {c : Bool} (dx : Den B ads x a) (dy : Den B ads y b) (h : isNT x y = some c) : PySem.plainIs a b = true ∧ (a == b) = c := by
 cases y <;> first | exact no_some h | skip
 ·obtain rfl := dy
  cases x <;> first | exact no_some h | (obtain rfl := Option.some.inj h)
  ·obtain rfl := dx; exact ⟨rfl, rfl⟩
  ·obtain rfl := dx; exact ⟨rfl, rfl⟩
  ·obtain ⟨t, rfl⟩ := dx; exact ⟨rfl, rfl⟩
  ·obtain ⟨⟨t, rfl⟩, _⟩ := dx; exact ⟨rfl, rfl⟩
  ·obtain ⟨p, _, rfl⟩ := dx; exact ⟨rfl, rfl⟩
  ·obtain ⟨⟨t, rfl⟩, _⟩ := dx; exact ⟨rfl, rfl⟩
 ·obtain ⟨rfl, _⟩ := dy
  cases b <;> first | exact no_some h | skip
  cases x <;> first | exact no_some h | skip
  obtain ⟨rfl, _⟩ := dx
  cases a <;> first | exact no_some h | skip
  exact ⟨rfl, Option.some.inj h⟩
theorem eqT_sound {B : Heap} {x y : SV} {a b : Value} {c : Bool} {A : Around} {Q : Value → Shared → Prop} (dx : Den B ads x a) (dy : Den B ads y b) (h : eqT x y = some c) (hq : Q (.bool c) s) : wpAny (model prog w) A (compareOp .Eq a b) Q E s := by
 have fin : eqS x y = some c → wpAny (model prog w) A (compareOp .Eq a b) Q E s := fun h => by
  obtain ⟨u, v, t, t', rfl, rfl, e⟩ := eqS_sound dx dy h
  exact eq_str (by rw [e]; exact hq)
 cases x <;> first | exact no_some h | skip
 ·obtain rfl := dx
  cases y <;> first | exact no_some h | (obtain rfl := Option.some.inj h)
  ·obtain rfl := dy; exact EqNone.eq_none_none hq
  ·obtain ⟨⟨u, rfl⟩, _⟩ := dy; exact EqNone.eq_none_str hq
 ·obtain ⟨t, rfl⟩ := dx
  cases y <;> first | exact no_some h | (obtain rfl := Option.some.inj h)
  obtain ⟨u, rfl⟩ := dy; exact PyProof.Rows.eq_int hq
 ·cases y <;> first | exact no_some h | exact fin h | (obtain rfl := Option.some.inj h)
  obtain ⟨⟨t, rfl⟩, _⟩ := dx; obtain rfl := dy; exact EqNone.eq_str_none hq
 ·cases y <;> first | exact no_some h | exact fin h | (obtain rfl := Option.some.inj h)
  obtain ⟨⟨t, rfl⟩, _⟩ := dx; obtain rfl := dy; exact EqNone.eq_str_none hq
theorem bin_sound {B : Heap} {A : Around} {op : Operator} {x y : SV} {a b : Value} {k : SV → Prop} {Q : Value → Shared → Prop} (dx : Den B ads x a) (dy : Den B ads y b) (h : binT op x y k)
  (hQ : ∀ r v t, k r → Den B ads r v → Q v { s with toks := t }) : wpAny (model prog w) A (binaryOp op a b) Q E s := by
 cases op <;> try exact h.elim
 ·exact add_sound dx dy h hQ
 ·cases x <;> first | exact False.elim h | skip
  cases y <;> first | exact False.elim h | skip
  obtain ⟨t, rfl⟩ := dx; obtain ⟨u, rfl⟩ := dy
  exact sub_int (hQ _ _ _ h ⟨_, rfl⟩)
 ·cases x <;> first | exact False.elim h | skip
  cases y <;> first | exact False.elim h | skip
  obtain ⟨t, rfl⟩ := dx; obtain ⟨u, rfl⟩ := dy
  exact mod_int' h.1 (hQ _ _ _ h.2 ⟨_, rfl⟩)
 ·cases x <;> first | exact False.elim h | skip
  cases y <;> first | exact False.elim h | skip
  obtain ⟨t, rfl⟩ := dx; obtain ⟨u, rfl⟩ := dy
  exact floordiv_int h.1.1 (hQ _ _ _ h.2 ⟨_, rfl⟩) (.inl (PyProof.noPylong_small h.1.2))
theorem strsIn_sound {B : Heap} {a : Str} : ∀ {xs : List SV} {vs : List Value} {b : Bool}, DenL B ads xs vs → strsIn a xs = some b → ∃ ys, StrsAre vs ys ∧ ys.any (· == a) = b := by
 intro xs vs b D
 induction D generalizing b with
 | nil => exact fun h => ⟨[], .nil, Option.some.inj h⟩
 | @cons x _ xs _ d r ih =>
  intro h
  cases x with
  | str y =>
   obtain ⟨c, h1, h2⟩ := Option.map_eq_some_iff.mp h
   obtain ⟨ys, e1, e2⟩ := ih h1
   obtain ⟨⟨t, rfl⟩, _⟩ := d
   exact ⟨y :: ys, .cons y t e1, by rw [List.any_cons, e2]; exact h2⟩
  | _ => cases h
theorem cmp_sound {op : CmpOp} {x y : SV} {a b : Value} {k : Bool → Prop} {Q : Value → Shared → Prop} (R : Rep w F ads st s.heap) (dx : Den F.B ads x a) (dy : Den F.B ads y b) (h : cmpT st op x y k)
  (hQ : ∀ c t, k c → Q (.bool c) { s with toks := t }) : wpAny (model prog w) F.A (compareOp op a b) Q E s := by
 have hq : ∀ c, k c → Q (.bool c) s := fun c hc => hQ c s.toks hc
 cases op with
 | Eq =>
  obtain ⟨c, e, h⟩ := onO_some h
  exact eqT_sound dx dy e (hq _ h)
 | NotEq =>
  have fin : onO (eqS x y) (fun b => k (!b)) → wpAny (model prog w) F.A (compareOp .NotEq a b) Q E s := fun h => by
   obtain ⟨c, hc, h⟩ := onO_some h
   obtain ⟨u, v, t, t', rfl, rfl, e⟩ := eqS_sound dx dy hc
   exact ne_str (by rw [bne, e]; exact hq _ h)
  cases x <;> first | exact fin h | skip
  cases y <;> first | exact h.elim | skip
  obtain ⟨t, rfl⟩ := dx; obtain ⟨u, rfl⟩ := dy; exact ne_int (hq _ h)
 | Lt =>
  cases x <;> first | exact False.elim h | skip
  cases y <;> first | exact False.elim h | skip
  obtain ⟨t, rfl⟩ := dx; obtain ⟨u, rfl⟩ := dy; exact PyProof.Rows.lt_int (hq _ h)
 | Gt =>
  cases x <;> first | exact False.elim h | skip
  cases y <;> first | exact False.elim h | skip
  obtain ⟨t, rfl⟩ := dx; obtain ⟨u, rfl⟩ := dy; exact gt_int (hq _ h)
 | GtE =>
  cases x <;> first | exact False.elim h | skip
  cases y <;> first | exact False.elim h | skip
  obtain ⟨t, rfl⟩ := dx; obtain ⟨u, rfl⟩ := dy; exact ge_int (hq _ h)
 | Is =>
  obtain ⟨c, hc, h⟩ := onO_some h
  obtain ⟨e1, e2⟩ := isNT_sound dx dy hc
  exact wpAny_is_plain e1 (by rw [e2]; exact hq _ h)
 | IsNot =>
  obtain ⟨c, hc, h⟩ := onO_some h
  obtain ⟨e1, e2⟩ := isNT_sound dx dy hc
  exact wpAny_isNot_plain e1 (by rw [e2]; exact hq _ h)
 | In =>
  have fin : onO (inS x y) k → wpAny (model prog w) F.A (compareOp .In a b) Q E s := fun h => by
   obtain ⟨c, hc, h⟩ := onO_some h
   obtain ⟨u, v, t, t', rfl, rfl, e⟩ := inS_sound dx dy hc
   exact in_str (by unfold inB at e; rw [e]; exact hq _ h)
  cases y <;> first | exact fin h | skip
  cases x <;> first | exact False.elim h | skip
  obtain ⟨xs, hi, h⟩ := onTup_some h
  obtain ⟨c, hc, h⟩ := onO_some h
  obtain ⟨m, news, lw, X⟩ := R
  obtain ⟨pre, ps, post, p, d, h1, h2, h3, _⟩ := X.led.at hi
  obtain ⟨vs, n, D, rfl⟩ := h3.inv
  obtain ⟨⟨t, rfl⟩, _⟩ := dx
  obtain ⟨q, hq1, rfl⟩ := dy
  rw [h2] at hq1
  obtain rfl := Option.some.inj hq1
  obtain ⟨ys, e1, e2⟩ := strsIn_sound D hc
  have ho := (X.nw (p, tupO vs n) (by rw [h1]; simp)).1
  exact in_tuple_strs (ys := ys) (items := vs.toArray) ⟨_, ho, rfl, n, rfl⟩ (by simpa using e1) (by rw [e2]; exact hq _ h)
 | NotIn =>
  obtain ⟨c, hc, h⟩ := onO_some h
  obtain ⟨u, v, t, t', rfl, rfl, e⟩ := inS_sound dx dy hc
  exact notIn_str (by unfold inB at e; rw [e]; exact hq _ h)
 | LtE => exact False.elim h
theorem isDeque_eq {o : Obj} (h : isDeque o = true) : ∃ a b, o = dequeO a b := by
 obtain ⟨c, d, e, ⟨sl⟩⟩ := o
 cases c <;> first | exact Bool.noConfusion h | skip
 cases d <;> first | exact Bool.noConfusion h | skip
 cases e <;> first | exact Bool.noConfusion h | skip
 rename_i vs
 obtain ⟨vs⟩ := vs
 cases vs with
 | nil => exact Bool.noConfusion h
 | cons a r =>
 cases r with
 | nil => exact Bool.noConfusion h
 | cons b r =>
 cases r <;> first | exact Bool.noConfusion h | skip
 cases sl <;> first | exact Bool.noConfusion h | skip
 exact ⟨a, b, by rw [eq_of_beq h]⟩
theorem noBool_deque : typeLookup (.type "collections.deque") "__bool__" = pure none := by rw [typeLookup_type, builtinLookup_eq_fast]; kernel_rfl
theorem slot_deque_len : Slot "collections.deque" "__len__" "collections.deque.__len__" :=
 .of (owner := "collections.deque") (n := "__len__") (by rw [typeLookup_type, builtinLookup_eq_fast]; kernel_rfl) (by decide +kernel) (by decide +kernel) (by decide +kernel)
  (by first | exact .inl (by decide +kernel) | exact .inr (by decide +kernel)) (by rw [isSubtype_type]; kernel_rfl)
theorem entry_deque_len : entryFor table "collections.deque.__len__" = some Builtin.«collections.deque.__len__» := entryFor_of_tree (by kernel_rfl)
theorem args_deque_len (a : Value) : argsOk "collections.deque.__len__" ⟨[a], []⟩ := by unfold argsOk; kernel_rfl
theorem len_body_deque {A : Around} {l : Addr} {x y : Value} {Q : Value → Shared → Prop} (ho : s.heap.get? l = some (dequeO x y))
  (h : Q (.int 0 (s.toks + 1)) { s with toks := s.toks + 1 + 1 }) : wpAny (model prog w) A (Builtin.«len» ⟨[.ref l], []⟩) (fun fin s' => ∃ r, fin = .done (.ret r) ∧ Q r s') E s := by
 have hT : s.TypeIs (.ref l) "collections.deque" := ⟨_, ho, rfl⟩
 unfold Builtin.«len»
 refine wpAny_bind (m := oneArg "len" _) (wpAny_pure ?_)
 refine wpAny_bind (m := callSpecial? (.ref l) (Str.ofString "__len__")) (wpAny_callSpecial?_slot (name := Str.ofString "__len__") hT slot_deque_len
  (wpAny_call_entry slot_deque_len hT entry_deque_len ?_ (args_deque_len _)))
 ·show wpAny _ _ (do retInt (← Builtin.Deque.size (.ref l))) _ _ s
  unfold Builtin.Deque.size
  refine wpAny_bind (wpAny_bind (wpAny_fieldsOf ho rfl (wpAny_pure ?_)))
  refine wpAny_bind (wpAny_mkInt (wpAny_pure ⟨_, rfl, ?_⟩))
  refine wpAny_bind (wpAny_holding (wpAny_pure ?_))
  refine wpAny_bind (wpAny_letGo ?_)
  show wpAny _ _ (if ((0 : Nat) : Int) < 0 then _ else _) _ _ _
  rw [if_neg (by lia)]
  show wpAny _ _ (if ((0 : Nat) : Int) ≥ 2 ^ 63 then _ else _) _ _ _
  rw [if_neg (by lia)]
  exact wpAny_bind (wpAny_mkInt (wpAny_pure ⟨_, rfl, h⟩))
theorem truth_deque {A : Around} {a : Addr} {x y : Value} {Q : Bool → Shared → Prop} (ho : s.heap.get? a = some (dequeO x y)) (hQ : Q false { s with toks := s.toks + 1 + 1 }) : wpAny (model prog w) A (truthy (.ref a)) Q E s := by
 have hT : s.TypeIs (.ref a) "collections.deque" := ⟨_, ho, rfl⟩
 have key : wpAny (model prog w) A (runValue (.builtin "len" ⟨[.ref a], []⟩)) (fun r s' => r = .int 0 (s.toks + 1) ∧ Q false s') E s := by
  refine wpAny_runValue (codeAny_builtin entry_len ?_)
  rw [Around.under_plainId plain_len _]
  exact wpAny_mono (len_body_deque (Q := fun r s' => r = .int 0 (s.toks + 1) ∧ Q false s') ho ⟨rfl, hQ⟩)
   (fun fin s' h' => by obtain ⟨r, rfl, hq⟩ := h'; exact hq) fun _ _ e => e
 unfold truthy
 first
  | refine wpAny_bind (wpAny_callSpecial?_none (name := Str.ofString "__bool__") hT noBool_deque ?_)
  | refine wpAny_bind (wpAny_pure (wpAny_bind (wpAny_callSpecial?_none (name := Str.ofString "__bool__") hT noBool_deque ?_)))
 first
  | refine wpAny_bind (wpAny_specialOf (name := Str.ofString "__len__") hT slot_deque_len.lookup ?_)
  | refine wpAny_bind (wpAny_pure (wpAny_bind (wpAny_specialOf (name := Str.ofString "__len__") hT slot_deque_len.lookup ?_)))
 first
  | exact wpAny_bind (wpAny_mono key (fun r s' h' => by obtain ⟨rfl, hq⟩ := h'; exact wpAny_pure hq) fun _ _ e => e)
  | exact wpAny_bind (wpAny_pure (wpAny_bind (wpAny_mono key (fun r s' h' => by obtain ⟨rfl, hq⟩ := h'; exact wpAny_pure hq) fun _ _ e => e)))
theorem truth_sound {x : SV} {a : Value} {k : Bool → Prop} {Q : Bool → Shared → Prop} (R : Rep w F ads st s.heap) (dx : Den F.B ads x a) (h : truthT st x k) (hQ : ∀ c t, k c → Q c { s with toks := t }) : wpAny (model prog w) F.A (truthy a) Q E s := by
 cases x <;> try exact h.elim
 ·cases dx; exact truthy_none (hQ _ s.toks h)
 ·cases dx; exact wpAny_truthy_bool (hQ _ s.toks h)
 ·obtain ⟨t, rfl⟩ := dx; exact truthy_int (hQ _ s.toks h)
 ·obtain ⟨⟨t, rfl⟩, l⟩ := dx
  exact SBL.truthy (by rw [sizeLine_eq] at l; lia) (hQ _ _ h)
 ·rename_i i
  obtain ⟨o, hi, h⟩ := onRaw_some h
  obtain ⟨hd, h⟩ := onTr_some h
  obtain ⟨x, y, rfl⟩ := isDeque_eq hd
  obtain ⟨m, news, lw, X⟩ := R
  obtain ⟨pre, ps, post, p, d, h1, h2, h3, _⟩ := X.led.at hi
  obtain rfl := h3.inv
  obtain ⟨q, hq1, rfl⟩ := dx
  rw [h2] at hq1
  cases hq1
  exact truth_deque (X.nw (p, dequeO x y) (by rw [h1]; simp)).1 (hQ _ _ h)
 ·obtain ⟨⟨t, rfl⟩, _⟩ := dx
  exact SBL.truthy (by rw [sgS_len]; lia) (hQ _ _ h)
end ops
noncomputable abbrev onFa (b : Bool) (p : Prop) : Prop := match b with
 | true => False
 | false => p
theorem onFa_some {b : Bool} {p : Prop} (h : onFa b p) : b = false ∧ p := by
 cases b with
 | true => exact h.elim
 | false => exact ⟨rfl, h⟩
noncomputable abbrev onNo {α : Type} (o : Option α) (p : Prop) : Prop := match o with
 | some _ => False
 | none => p
theorem onNo_some {α : Type} {o : Option α} {p : Prop} (h : onNo o p) : o = none ∧ p := by
 cases o with
 | some _ => exact h.elim
 | none => exact ⟨rfl, h⟩
noncomputable abbrev bO {α β : Type} (o : Option α) (f : α → Option β) : Option β := match o with
 | some x => f x
 | none => none
theorem bO_some {α β : Type} {o : Option α} {f : α → Option β} {c : β} (h : bO o f = some c) : ∃ x, o = some x ∧ f x = some c := by
 cases o with
 | none => exact no_some h
 | some x => exact ⟨x, rfl, h⟩
noncomputable abbrev lgc (o : Option NameKind) (p q r : Prop) : Prop := match o with
 | none => False
 | some k => match k with
  | .local => p
  | .globalImplicit => q
  | .cell => r
  | _ => False
theorem lgc_some {o : Option NameKind} {p q r : Prop} (h : lgc o p q r) : (o = some .local ∧ p) ∨ (o = some .globalImplicit ∧ q) ∨ (o = some .cell ∧ r) := by
 cases o with
 | none => exact h.elim
 | some x => cases x <;> first | exact .inl ⟨rfl, h⟩ | exact .inr (.inl ⟨rfl, h⟩) | exact .inr (.inr ⟨rfl, h⟩) | exact h.elim
noncomputable abbrev onE1 {α : Type} (l : List α) (f : α → Prop) : Prop := match l with
 | [] => False
 | x :: r => match r with
  | [] => f x
  | _ :: _ => False
theorem onE1_some {α : Type} {l : List α} {f : α → Prop} (h : onE1 l f) : ∃ x, l = [x] ∧ f x := by
 cases l with
 | nil => exact h.elim
 | cons x r => cases r with
  | nil => exact ⟨x, rfl, h⟩
  | cons => exact h.elim
noncomputable abbrev ifs01 (l : List Expr) (p : Prop) (f : Expr → Prop) : Prop := match l with
 | [] => p
 | c :: r => match r with
  | [] => f c
  | _ :: _ => False
theorem ifs01_some {l : List Expr} {p : Prop} {f : Expr → Prop} (h : ifs01 l p f) : (l = [] ∧ p) ∨ ∃ c, l = [c] ∧ f c := by
 cases l with
 | nil => exact .inl ⟨rfl, h⟩
 | cons x r => cases r with
  | nil => exact .inr ⟨x, rfl, h⟩
  | cons => exact h.elim
noncomputable abbrev onSrc (o : Option (List SV × (Nat → SO))) (f : List SV → (Nat → SO) → Prop) : Prop := match o with
 | none => False
 | some p => match p with
  | (a, b) => f a b
theorem onSrc_some {o : Option (List SV × (Nat → SO))} {f : List SV → (Nat → SO) → Prop} (h : onSrc o f) : ∃ a b, o = some (a, b) ∧ f a b := by
 cases o with
 | none => exact h.elim
 | some p => exact ⟨p.1, p.2, rfl, h⟩
noncomputable abbrev onDL (o : Option SO) (f : List (Str × SV) → Prop) (g : List SV → Prop) : Prop := match o with
 | none => False
 | some x => match x with
  | .dic fs => f fs
  | .list xs => g xs
  | _ => False
theorem onDL_some {o : Option SO} {f : List (Str × SV) → Prop} {g : List SV → Prop} (h : onDL o f g) : (∃ x, o = some (.dic x) ∧ f x) ∨ ∃ x, o = some (.list x) ∧ g x := by
 cases o with
 | none => exact h.elim
 | some x => cases x <;> first | exact .inl ⟨_, rfl, h⟩ | exact .inr ⟨_, rfl, h⟩ | exact h.elim
noncomputable abbrev isStar (e : Expr) : Bool := match e with
 | .Starred .. => true
 | _ => false
noncomputable abbrev refOf (v : Value) : Option Addr := match v with
 | .ref a => some a
 | _ => none
theorem refOf_some {v : Value} {a : Addr} (h : refOf v = some a) : v = .ref a := by
 cases v <;> first | exact no_some h | exact congrArg Value.ref (Option.some.inj h)
theorem refOf_none {v : Value} (h : refOf v = none) (a : Addr) (e : v = .ref a) : False := by
 rw [e] at h; cases h
noncomputable abbrev isZ (i : Int) : Bool := match i with
 | .ofNat n => Nat.beq n 0
 | .negSucc _ => false
theorem isZ_eq {i : Int} (h : isZ i = true) : i = 0 := by
 cases i with
 | ofNat n => rw [Nat.eq_of_beq_eq_true h]; rfl
 | negSucc n => cases h
noncomputable def okLit (s : Str) : Bool := Nat.ble s.length 4096
theorem okLit_le {s : Str} (h : okLit s = true) : s.length ≤ sizeLine := by
 have := Nat.le_of_ble_eq_true h
 rw [sizeLine_eq]; lia
noncomputable def unSg (x : SV) : SV := match x with
 | .sg c _ _ => .str (sgS c)
 | x => x
theorem unSg_den {B : Heap} {W : Wd} {x : SV} {v : Value} (d : Den B W x v) : Den B W (unSg x) v := by
 cases x with
 | sg c es fs => exact ⟨d.1, by rw [sgS_len, sizeLine_eq]; lia⟩
 | _ => exact d
noncomputable def attrT (C : Cf) (st : St) (x : SV) (a : Str) (k : SV → Prop) : Prop := onOb x fun i => onInst st.led[i]? fun c fs => onOpt (findCls c C.cls) fun ce => onTr (hasName a ce.attrs) (onOpt (lk a fs) k)
noncomputable def setAttrT (C : Cf) (st : St) (x : SV) (a : Str) (v : SV) (k : St → Prop) : Prop := onOb x fun i => onInst st.led[i]? fun c fs => onOpt (findCls c C.cls) fun ce => onTr (hasName a ce.attrs) (onTr (Nat.ble (fs.length + 1) 900) (k { st with led := st.led.set i (.inst c (put a v fs)) }))
noncomputable def methT (C : Cf) (st : St) (x : SV) (a : Str) (k : Addr → Prop) : Prop := onOb x fun i => onInst st.led[i]? fun c fs => onOpt (findCls c C.cls) fun ce => onOpt (lk a ce.meths) fun f => onNo (lk a fs) (k f)
noncomputable def propT (C : Cf) (st : St) (x : SV) (a : Str) : Option Addr := match x with
 | .obj i => bO st.led[i]? fun so => match so with
  | .inst c _ => bO (findCls c C.cls) fun ce => bO (lk a ce.props) fun p => some p.2
  | _ => none
 | _ => none
noncomputable def toSVs : List (Str × Value) → List (Str × SV)
 | [] => []
 | (x, v) :: r => (x, toSV v) :: toSVs r
noncomputable def zipS : List Str → List SV → List (Str × SV)
 | x :: xs, v :: vs => (x, v) :: zipS xs vs
 | _, _ => []
noncomputable def zipV : List Str → List Value → List (Str × Value)
 | x :: xs, v :: vs => (x, v) :: zipV xs vs
 | _, _ => []
noncomputable def backT (st : St) (k : Kt) : Kt := fun r st' => match r with
 | .ret v => k (.v v) { loc := st.loc, led := st'.led }
 | .next => k (.v .none) { loc := st.loc, led := st'.led }
 | _ => False
noncomputable def plainAssign (v : Expr) : Bool := match v with
 | .ListComp .. => false
 | .SetComp .. => false
 | .DictComp .. => false
 | _ => true
noncomputable def plainBase (o : Expr) : Bool := match o with
 | .Name .. => true
 | .Attribute .. => true
 | .Constant .. => true
 | .Subscript .. => true
 | _ => false
noncomputable def noStar : List Expr → Bool
 | [] => true
 | e :: r => match isStar e with
  | true => false
  | false => noStar r
noncomputable def mcOk (o : Expr) (args : List Expr) (apos pos : Pos) : Bool := plainBase o && noStar args && Nat.ble args.length 20 && apos.endLine == pos.line
noncomputable def isInst (st : St) (x : SV) : Bool := match x with
 | .obj i => match st.led[i]? with
  | some so => match so with
   | .inst .. => true
   | _ => false
  | none => false
 | _ => false
noncomputable def plainIdx (i : Expr) : Bool := match i with
 | .Constant .. => true
 | .Name .. => true
 | .BinOp .. => true
 | .UnaryOp .. => true
 | _ => false
noncomputable def isListy (x : SV) : Bool := match x with
 | .dat _ => true
 | .obj _ => true
 | _ => false
noncomputable def strOnly (x : SV) : Option Str := match x with
 | .str s => some s
 | _ => none
noncomputable def subT (st : St) (o i : SV) (k : SV → Prop) : Prop := match i with
 | .int i => match strOnly o with
  | some x => -(x.length : Int) ≤ i ∧ i < (x.length : Int) ∧ k (.str (Txt.item x i))
  | none => onOpt (seqOf st o) fun p => ∃ y, idxP p.2 i y ∧ k y
 | _ => False
noncomputable def slT (st : St) (o : SV) (l u : Option Int) (k : SV → St → Prop) : Prop := match o with
 | .str x => k (.str (Txt.slice x l u)) st
 | .dat d => match d with
  | .list ds => k (.dat (.list (slD ds l u))) st
  | _ => False
 | _ => False
noncomputable def cmpA (n : Nat) (st : St) (op : CmpOp) (x y : SV) (k : Bool → Prop) : Prop := match isListy x with
 | true => match op with
  | .Eq => eqD n st x y k
  | .NotEq => eqD n st x y fun c => k (!c)
  | _ => cmpT st op x y k
 | false => cmpT st op x y k
noncomputable def on0 (vs : List SV) (p : Prop) : Prop := match vs with
 | [] => p
 | _ :: _ => False
noncomputable def on1 (vs : List SV) (f : SV → Prop) : Prop := match vs with
 | [] => False
 | x :: r => match r with
  | [] => f x
  | _ :: _ => False
noncomputable def on2 (vs : List SV) (f : SV → SV → Prop) : Prop := match vs with
 | [] => False
 | x :: r => match r with
  | [] => False
  | y :: q => match q with
   | [] => f x y
   | _ :: _ => False
noncomputable def intOnly (x : SV) : Option Int := match x with
 | .int s => some s
 | _ => none
noncomputable def onS (x : SV) (f : Str → Prop) : Prop := match strOnly x with
 | some s => f s
 | none => False
noncomputable def onI (x : SV) (f : Int → Prop) : Prop := match intOnly x with
 | some s => f s
 | none => False
theorem on0_some {vs : List SV} {p : Prop} (h : on0 vs p) : vs = [] ∧ p := by
 cases vs with
 | nil => exact ⟨rfl, h⟩
 | cons => exact h.elim
theorem on1_some {vs : List SV} {f : SV → Prop} (h : on1 vs f) : ∃ x, vs = [x] ∧ f x := by
 cases vs with
 | nil => exact h.elim
 | cons x r => cases r with
  | nil => exact ⟨x, rfl, h⟩
  | cons => exact h.elim
theorem on2_some {vs : List SV} {f : SV → SV → Prop} (h : on2 vs f) : ∃ x y, vs = [x, y] ∧ f x y := by
 cases vs with
 | nil => exact h.elim
 | cons x r => cases r with
  | nil => exact h.elim
  | cons y q => cases q with
   | nil => exact ⟨x, y, rfl, h⟩
   | cons => exact h.elim
theorem strOnly_eq {x : SV} {s : Str} (h : strOnly x = some s) : x = .str s := by
 cases x <;> first | exact no_some h | exact congrArg SV.str (Option.some.inj h)
theorem onS_some {x : SV} {f : Str → Prop} (h : onS x f) : ∃ s, x = .str s ∧ f s := by
 cases x <;> first | exact ⟨_, rfl, h⟩ | exact h.elim
theorem onI_some {x : SV} {f : Int → Prop} (h : onI x f) : ∃ s, x = .int s ∧ f s := by
 cases x <;> first | exact ⟨_, rfl, h⟩ | exact h.elim
noncomputable def isiT (x y : SV) (st : St) (k : SV → St → Prop) : Prop := match y with
 | .val v => match v with
  | .type t => match x with
   | .str _ => t = "str" ∧ k (.bool true) st
   | .dat d => match d with
    | .list _ => t = "str" ∧ k (.bool false) st
    | _ => False
   | _ => False
  | _ => False
 | _ => False
noncomputable def typT (x : SV) (st : St) (k : SV → St → Prop) : Prop := match x with
 | .int _ => k (.val (.type "int")) st
 | .str _ => k (.val (.type "str")) st
 | _ => False
noncomputable abbrev onStr (a b : String) (p q : Prop) : Prop := match decide (a = b) with
 | true => p
 | false => q
theorem onStr_some {a b : String} {p q : Prop} (h : onStr a b p q) : (a = b ∧ p) ∨ q := by
 unfold onStr at h
 split at h
 ·rename_i e; exact .inl ⟨of_decide_eq_true e, h⟩
 ·exact .inr h
noncomputable def bfT (f : Value) (vs : List SV) (st : St) (k : SV → St → Prop) : Prop := match f with
 | .builtin id => onStr id "len" (on1 vs fun x => match strOnly x with
   | some s => k (.int s.length) st
   | none => onOpt (seqOf st x) fun p => p.2.length ≤ sizeLine ∧ k (.int p.2.length) st)
  <| onStr id "isinstance" (on2 vs fun x y => isiT x y st k) False
 | .type t => onStr t "type" (on1 vs fun x => typT x st k)
  <| onStr t "int" (on1 vs fun x => onI x fun i => k (.int i) st)
  <| onStr t "str" (on1 vs fun x => onI x fun i => i.natAbs < 4611686018427387904 ∧ (Str.ofString (toString i)).length ≤ sizeLine ∧ k (.str (Str.ofString (toString i))) st)
  <| onStr t "range" (on1 vs fun x => onI x fun i => 0 ≤ i ∧ i.toNat ≤ sizeLine ∧ k (.obj st.led.length) { st with led := st.led ++ [.rng i.toNat] })
  <| onStr t "collections.deque" (on0 vs (k (.obj st.led.length) { st with led := st.led ++ [.raw (dequeO .none (rawInt 0))] })) False
 | _ => False
noncomputable def bmT (st : St) (x : SV) (m : Str) (k : String → Prop) : Prop := match x with
 | .str _ => match Fast.sEq m "join" with
  | true => k "str.join"
  | false => match Fast.sEq m "strip" with
   | true => k "str.strip"
   | false => match Fast.sEq m "split" with
    | true => k "str.split"
    | false => match Fast.sEq m "startswith" with
     | true => k "str.startswith"
     | false => match Fast.sEq m "endswith" with
      | true => k "str.endswith"
      | false => False
 | .obj i => onLst st.led[i]? fun _ => match Fast.sEq m "append" with
  | true => k "list.append"
  | false => match Fast.sEq m "pop" with
   | true => k "list.pop"
   | false => False
 | _ => False
noncomputable def bcT (mid : String) (st : St) (x : SV) (vs : List SV) (k : SV → St → Prop) : Prop :=
 onStr mid "str.join" (onS x fun sep => on1 vs fun v => listDat st v fun ds => ∃ ts : List Str, ds = ts.map .str ∧ JoinOk sep ts = true ∧ (Txt.join sep ts).length ≤ sizeLine ∧ k (.str (Txt.join sep ts)) st)
 <| onStr mid "str.strip" (onS x fun x => on0 vs (k (.str (Txt.strip x)) st))
 <| onStr mid "str.split" (onS x fun x => on2 vs fun y m => onS y fun y => onI m fun n => (y.length == 0) = false ∧ (decide (n < -(2 ^ 63 : Int)) || decide (n ≥ 2 ^ 63)) = false ∧ x.length + 2 ≤ sizeLine ∧ (Txt.splitMax x y n).length ≤ sizeLine ∧ k (.dat (.list ((Txt.splitMax x y n).map .str))) st)
 <| onStr mid "str.startswith" (onS x fun x => on1 vs fun y => onS y fun y => k (.bool (Txt.startswith x y)) st)
 <| onStr mid "str.endswith" (onS x fun x => on1 vs fun y => onS y fun y => k (.bool (Txt.endswith x y)) st)
 <| onStr mid "list.append" (onOb x fun i => on1 vs fun y => appT i y st fun st' => k .none st')
 <| onStr mid "list.pop" (onOb x fun i => on0 vs (∃ xs y, st.led[i]? = some (.list (xs ++ [y])) ∧ xs.length < sizeLine ∧ k y { st with led := st.led.set i (.list xs) })) False
noncomputable def setIT (st : St) (o i v : SV) (k : St → Prop) : Prop := onOb o fun j => onDL st.led[j]?
 (fun fs => onS i fun x => fs.length ≤ sizeLine ∧ k { st with led := st.led.set j (.dic (put x v fs)) })
 (fun xs => onI i fun z => 0 ≤ z ∧ z < (xs.length : Int) ∧ xs.length ≤ sizeLine ∧ k { st with led := st.led.set j (.list (xs.set z.toNat v)) })
noncomputable def plainIter (e : Expr) : Bool := match e with
 | .Set .. => false
 | _ => true
noncomputable def notTuple (e : Expr) : Bool := match e with
 | .Tuple .. => false
 | _ => true
noncomputable abbrev hkT {α : Type} (o : Option (HkE α)) (n : Nat) (x : α) (ns : List (Str × NameKind)) (st : St) (k : Kt) (p : Prop) : Prop := match o with
 | some h => onTr (Nat.ble h.d n) (h.x = x ∧ h.sp ns st k)
 | none => p
noncomputable def compS (evn : List (Str × NameKind) → Tk → St → Kt → Prop) (elt tgt : Expr) (ifs : List Expr) (sc : Scope) (k : SV → St → Prop) (src : SV) (st₁ : St) : Prop := onSrc (srcT st₁ src) fun all slot => ifs01 ifs
  (compE (bindT (relab sc.names) tgt) none (fun st k => evn (relab sc.names) (.ex elt) st k) src all slot st₁.led.length (st₁.led.length + 1) 0 all
    ⟨freesOf st₁.loc sc.names, st₁.led ++ [slot 0, .list []]⟩ (fun stE => CompFin st₁.loc st₁.led.length (st₁.led.length + 1) stE k))
  (fun c => compE (bindT (relab sc.names) tgt) (some fun st k => evn (relab sc.names) (.tr c) st k) (fun st k => evn (relab sc.names) (.ex elt) st k) src all slot st₁.led.length (st₁.led.length + 1) 0 all
    ⟨freesOf st₁.loc sc.names, st₁.led ++ [slot 0, .list []]⟩ (fun stE => CompFin st₁.loc st₁.led.length (st₁.led.length + 1) stE k))
noncomputable def compT (evn : List (Str × NameKind) → Tk → St → Kt → Prop) (ns : List (Str × NameKind)) (elt : Expr) (gens : List Comprehension) (sc : Scope) (st : St) (k : SV → St → Prop) : Prop := onE1 gens fun g => onTr (isZ g.is_async) (onTr (scOk ns sc) (onTr (plainIter g.iter) (evn ns (.ex g.iter) st fun r st₁ => match r with
     | .v src => compS evn elt g.target g.ifs sc k src st₁
     | _ => False)))
noncomputable def onV (K : SV → St → Prop) : Kt := fun a st => match a with
 | .v x => K x st
 | _ => False
noncomputable def onB (K : Bool → St → Prop) : Kt := fun a st => match a with
 | .b x => K x st
 | _ => False
noncomputable def onVs (K : List SV → St → Prop) : Kt := fun a st => match a with
 | .vs x => K x st
 | _ => False
noncomputable def partT (C : Cf) (n : Nat) (ns : List (Str × NameKind)) (e : Option Expr) (st : St) (ev : List (Str × NameKind) → Tk → St → Kt → Prop) (k : Option Int → St → Prop) : Prop := match e with
 | none => k none st
 | some e => ev ns (.ex e) st <| onV fun r st₁ => match r with
  | .int i => k (some i) st₁
  | _ => False
noncomputable def callT (C : Cf) (n : Nat) (evn : List (Str × NameKind) → Tk → St → Kt → Prop) (f : Addr) (vs : List SV) (st : St) (k : Kt) : Prop := match findSp f vs.length C.sps with
 | some e => match Nat.ble e.d n with
  | true => e.sp vs st k
  | false => False
 | none => match findFn f vs.length C.fns with
  | some e => evn e.scope.names (.sts e.body) { loc := zipS e.names vs ++ toSVs e.more, led := st.led } (backT st k)
  | none => False
noncomputable def ev (C : Cf) : Nat → List (Str × NameKind) → Tk → St → Kt → Prop
  | 0, _, _, _, _ => False
  | n + 1, ns, tk, st, k =>
    match tk with
    | .ex e => match e with
      | .Name x _ => onFa (Fast.sEq x "__debug__") (lgc (nmKind x ns) (onOpt (lk x st.loc) fun v => k (.v v) st) (onOpt (lk x C.globs) fun v => k (.v (toSV v)) st)
          (onOpt (lk x st.loc) fun y => onOb y fun i => onCel st.led[i]? fun c => onOpt c fun v => k (.v v) st))
      | .Constant c _ _ => match c with
        | .none => k (.v .none) st
        | .bool b => k (.v (.bool b)) st
        | .int i => k (.v (.int i)) st
        | .str s => match okLit s with
          | true => k (.v (.str s)) st
          | false => False
        | _ => False
      | .Attribute o a _ => match plainBase o with
        | false => False
        | true => ev C n ns (.ex o) st <| onV fun x st₁ =>
          match propT C st₁ x a with
          | some f => callT C n (ev C n) f [x] st₁ k
          | none => attrT C st₁ x a fun v => k (.v v) st₁
      | .BinOp l op r _ => ev C n ns (.ex l) st <| onV fun x st₁ =>
          ev C n ns (.ex r) st₁ <| onV fun y st₂ =>
            match isListy x with
            | true => match op with
              | .Add => listDat st₂ x fun ds => listDat st₂ y fun es => ds.length + es.length ≤ sizeLine ∧ k (.v (.dat (.list (ds ++ es)))) st₂
              | _ => False
            | false => binT op x y fun z => k (.v z) st₂
      | .Compare l ops rs _ => onE1 ops fun op => onE1 rs fun r => onFa (behindInMarks op r) (ev C n ns (.ex l) st <| onV fun x st₁ =>
              ev C n ns (.ex r) st₁ <| onV fun y st₂ =>
                cmpA n st₂ op x y fun z => k (.v (.bool z)) st₂)
      | .BoolOp op vs p => match vs with
        | [e] => ev C n ns (.ex e) st k
        | e₁ :: e₂ :: rest => match op with
          | .And => ev C n ns (.ex e₁) st <| onV fun x st₁ =>
              truthT st₁ x fun c => ifT c (ev C n ns (.ex (.BoolOp .And (e₂ :: rest) p)) st₁ k) (k (.v x) st₁)
          | .Or => ev C n ns (.ex e₁) st <| onV fun x st₁ =>
              truthT st₁ x fun c => ifT c (k (.v x) st₁) (ev C n ns (.ex (.BoolOp .Or (e₂ :: rest) p)) st₁ k)
        | [] => False
      | .UnaryOp op x _ => match op with
        | .USub => ev C n ns (.ex x) st <| onV fun y st₁ => match y with
          | .int i => k (.v (.int (-i))) st₁
          | _ => False
        | _ => False
      | .IfExp t a b _ => ev C n ns (.tr t) st <| onB fun c st₁ =>
          ifT c (ev C n ns (.ex a) st₁ k) (ev C n ns (.ex b) st₁ k)
      | .Tuple es _ pos => match noStar es with
        | false => False
        | true => ev C n ns (.args es pos) st <| onVs fun vs st₁ =>
            match Nat.ble vs.length 4096 with
            | true => k (.v (.obj st₁.led.length)) { st₁ with led := st₁.led ++ [.tup vs] }
            | false => False
      | .List es pos => match noStar es with
        | false => False
        | true => ev C n ns (.args es pos) st <| onVs fun vs st₁ =>
            match Nat.ble vs.length 4096 with
            | true => k (.v (.obj st₁.led.length)) { st₁ with led := st₁.led ++ [.list vs] }
            | false => False
      | .Subscript o i _ => match plainIdx i with
        | true => ev C n ns (.ex o) st <| onV fun x st₁ =>
              ev C n ns (.ex i) st₁ <| onV fun y st₂ =>
                subT st₂ x y fun z => k (.v z) st₂
        | false => match i with
          | .Slice lo hi stp _ => match stp with
            | none => ev C n ns (.ex o) st <| onV fun x st₁ =>
              partT C n ns lo st₁ (ev C n) fun l st₂ => partT C n ns hi st₂ (ev C n) fun u st₃ => slT st₃ x l u fun z st₄ => k (.v z) st₄
            | some _ => False
          | _ => False
      | .ListComp a b c pos => hkT (findHk pos.line pos.col C.hxs) n (.ListComp a b c pos) ns st k (compT (ev C n) ns a b c st fun v st₁ => k (.v v) st₁)
      | .Dict ks vs _ => match ks with
        | [] => match vs with
          | [] => k (.v (.obj st.led.length)) { st with led := st.led ++ [.dic []] }
          | _ => False
        | _ => False
      | .Call f args kws pos => hkT (findHk pos.line pos.col C.hxs) n (.Call f args kws pos) ns st k <| match kws with
        | [] => match f with
          | .Attribute o m apos => match mcOk o args apos pos with
           | false => False
           | true => ev C n ns (.ex o) st <| onV fun x st₁ =>
              match isInst st₁ x with
              | true => methT C st₁ x m fun fa => ev C n ns (.args args pos) st₁ <| onVs fun vs st₂ =>
                  callT C n (ev C n) fa (x :: vs) st₂ k
              | false => bmT st₁ x m fun mid => ev C n ns (.args args pos) st₁ <| onVs fun vs st₂ =>
                  bcT mid st₂ x vs fun z st₃ => k (.v z) st₃
          | .Name _ _ => match noStar args with
           | false => False
           | true => ev C n ns (.ex f) st <| onV fun y st₁ => match y with
            | .val f => ev C n ns (.args args pos) st₁ <| onVs fun vs st₂ =>
                match refOf f with
                | some fa => callT C n (ev C n) fa vs st₂ k
                | none => bfT f vs st₂ fun z st₃ => k (.v z) st₃
            | _ => False
          | _ => False
        | _ => False
      | _ => False
    | .args es pos => match es with
      | [] => k (.vs []) st
      | e :: rest => onFa (isStar e) (ev C n ns (.ex e) st <| onV fun x st₁ =>
            ev C n ns (.args rest pos) st₁ <| onVs fun vs st₂ =>
              k (.vs (x :: vs)) st₂)
    | .tr e => match e with
      | .BoolOp op vs p => match vs with
        | [] => match op with
          | .And => k (.b true) st
          | .Or => k (.b false) st
        | e₁ :: rest => match op with
          | .And => ev C n ns (.tr e₁) st <| onB fun c st₁ =>
              ifT c (ev C n ns (.tr (.BoolOp .And rest p)) st₁ k) (k (.b false) st₁)
          | .Or => ev C n ns (.tr e₁) st <| onB fun c st₁ =>
              ifT c (k (.b true) st₁) (ev C n ns (.tr (.BoolOp .Or rest p)) st₁ k)
      | .UnaryOp op x _ => match op with
        | .Not => ev C n ns (.tr x) st <| onB fun c st₁ =>
            k (.b (!c)) st₁
        | _ => False
      | .Compare l ops rs _ => onE1 ops fun op => onE1 rs fun r => onFa (behindInMarks op r) (ev C n ns (.ex l) st <| onV fun x st₁ =>
              ev C n ns (.ex r) st₁ <| onV fun y st₂ =>
                cmpA n st₂ op x y fun z => k (.b z) st₂)
      | .Name .. => ev C n ns (.ex e) st <| onV fun x st₁ =>
          truthT st₁ x fun c => k (.b c) st₁
      | .Attribute .. => ev C n ns (.ex e) st <| onV fun x st₁ =>
          truthT st₁ x fun c => k (.b c) st₁
      | .Call .. => ev C n ns (.ex e) st <| onV fun x st₁ =>
          truthT st₁ x fun c => k (.b c) st₁
      | .Constant .. => ev C n ns (.ex e) st <| onV fun x st₁ =>
          truthT st₁ x fun c => k (.b c) st₁
      | _ => False
    | .wl t b => ev C n ns (.tr t) st <| onB fun c st₁ =>
        ifT c (ev C n ns (.sts b) st₁ fun r st₂ => match r with
          | .next => ev C n ns (.wl t b) st₂ k
          | .cont => ev C n ns (.wl t b) st₂ k
          | .brk => k .next st₂
          | .ret x => k (.ret x) st₂
          | _ => False) (k .next st₁)
    | .sts l => match l with
      | [] => k .next st
      | s :: rest => ev C n ns (.st s) st fun r st₁ => match r with
        | .next => ev C n ns (.sts rest) st₁ k
        | .brk => k .brk st₁
        | .cont => k .cont st₁
        | .ret x => k (.ret x) st₁
        | _ => False
    | .st s => match s with
      | .Assign tgs v pos => match tgs with
        | [] => False
        | t₀ :: r₀ => match r₀ with
          | [] => match t₀ with
            | .Name x _ => locCel (nmKind x ns)
              (match plainAssign v with
                | true => ev C n ns (.ex v) st <| onV fun y st₁ =>
                    k .next { st₁ with loc := put x y st₁.loc }
                | false => match v with
                  | .ListComp a b c _ => compT (ev C n) ns a b c st fun y st₁ => k .next { st₁ with loc := put x y st₁.loc }
                  | _ => False)
              (match plainAssign v with
                | true => ev C n ns (.ex v) st <| onV fun y st₁ =>
                    stT ns x y st₁ fun st₂ => k .next st₂
                | false => match v with
                  | .ListComp a b c _ => compT (ev C n) ns a b c st fun y st₁ => stT ns x y st₁ fun st₂ => k .next st₂
                  | _ => False)
            | .Tuple elts q p => match plainAssign v with
              | true => match notTuple v with
                | true => ev C n ns (.ex v) st <| onV fun y st₁ =>
                    bindT ns (.Tuple elts q p) y st₁ fun st₂ => k .next st₂
                | false => False
              | false => False
            | .Subscript o i _ => match plainAssign v with
              | true => ev C n ns (.ex v) st <| onV fun y st₁ =>
                  ev C n ns (.ex o) st₁ <| onV fun x st₂ =>
                    ev C n ns (.ex i) st₂ <| onV fun z st₃ =>
                      setIT st₃ x z (unSg y) fun st₄ => k .next st₄
              | false => False
            | .Attribute o a _ => match plainAssign v with
              | true => ev C n ns (.ex v) st <| onV fun y st₁ =>
                  ev C n ns (.ex o) st₁ <| onV fun x st₂ =>
                    setAttrT C st₂ x a (unSg y) fun st₃ => k .next st₃
              | false => False
            | _ => False
          | t₁ :: r₁ => match r₁ with
            | [] => match t₀ with
              | .Name x _ => match t₁ with
                | .Name z _ => match plainAssign v with
                  | true => match notTuple v with
                    | true => ev C n ns (.ex v) st <| onV fun y st₁ =>
                        stT ns x y st₁ fun st₂ => stT ns z y st₂ fun st₃ => k .next st₃
                    | false => False
                  | false => False
                | _ => False
              | _ => False
            | _ :: _ => False
      | .AugAssign tg op v _ => match op with
        | .Add => match tg with
          | .Name x _ => locCel (nmKind x ns) (onOpt (lk x st.loc) fun old => ev C n ns (.ex v) st <| onV fun y st₁ =>
                  addT old y fun z => k .next { st₁ with loc := put x z st₁.loc }) False
          | .Attribute o a _ => ev C n ns (.ex o) st <| onV fun x st₁ =>
              attrT C st₁ x a fun old => ev C n ns (.ex v) st₁ <| onV fun y st₂ =>
                addT old y fun z => setAttrT C st₂ x a z fun st₃ => k .next st₃
          | _ => False
        | _ => False
      | .If t b e _ => ev C n ns (.tr t) st <| onB fun c st₁ =>
          ifT c (ev C n ns (.sts b) st₁ k) (ev C n ns (.sts e) st₁ k)
      | .Return v pos => hkT (findHk pos.line pos.col C.hss) n (.Return v pos) ns st k <| match v with
          | some e => ev C n ns (.ex e) st <| onV fun x st₁ =>
              k (.ret x) st₁
          | none => k (.ret .none) st
      | .Break _ => k .brk st
      | .Continue _ => k .cont st
      | .Pass _ => k .next st
      | .For a b c d pos => hkT (findHk pos.line pos.col C.hss) n (.For a b c d pos) ns st k <| match d with
          | [] => match plainIter b with
            | true => ev C n ns (.ex b) st <| onV fun src st₁ =>
                onSrc (srcT st₁ src) fun all slot => forE (bindT ns a) (fun st k => ev C n ns (.sts c) st k) src all slot st₁.led.length 0 all { st₁ with led := st₁.led ++ [slot 0] } k
            | false => False
          | _ => False
      | .Try a b c d pos => hkT (findHk pos.line pos.col C.hss) n (.Try a b c d pos) ns st k False
      | .While t b e pos => hkT (findHk pos.line pos.col C.hss) n (.While t b e pos) ns st k <| match e with
          | [] => ev C n ns (.wl t b) st k
          | _ => False
      | .Expr e _ => match e with
        | .Call .. => ev C n ns (.ex e) st <| onV fun _ st₁ =>
            k .next st₁
        | _ => False
      | _ => False
structure FnOk (K : Frag) (e : FnE) : Prop where
 at_ : ∃ oc od osl fd, K.lookup e.fa = some (⟨oc, od, .func fd, osl⟩ : Obj) ∧ fd.body = .stmts e.body ∧ fd.scope = e.scope ∧ (∀ L a, callEnv fd L a = envOf e.qual e.scope L a e.cd) ∧ fd.code = e.cd ∧ fd.qualname = e.qual ∧
  ∀ (s : Shared) (vs : List Value), K.In s.heap → vs.length = e.na → BindsTo s fd ⟨vs, []⟩ (zipV e.names vs ++ e.more)
 celk : ∀ x ∈ e.cells, e.scope.names.lookup x = some .cell
 code : codeIn K e.cd e.qual = true
 cells : ∀ n, (cellsFrom n e.scope.names []).map (·.1) = e.cells
 loc : ∀ x ∈ e.names ++ e.more.map (·.1), e.scope.names.lookup x = some .local ∨ (e.scope.names.lookup x = some .cell ∧ x ∈ e.cells)
 nd : (e.names ++ e.more.map (·.1)).Nodup
 len : e.names.length = e.na
 co : e.scope.isCoroutine = false
 gen : e.scope.isGenerator = false
 kind : e.scope.kind = .function
 more : ∀ x ∈ e.more, ∀ B ads, Den B ads (toSV x.2) x.2
structure ClsOk (K : Frag) (c : ClsE) : Prop where
 get : ∀ a, hasName a c.attrs = true → plainGet K c.C a = true ∧ hasDictIn K c.C = true ∧ findIn K (.ref c.C) a = some none
 set : ∀ a, hasName a c.attrs = true → findIn K (.ref c.C) "__setattr__" = some (some (.builtin "object.__setattr__")) ∧ plainOver K c.C = true ∧ takerIn K c.C a = some none
 meth : ∀ a f, lk a c.meths = some f → plainGet K c.C a = true ∧ findIn K (.ref c.C) a = some (some (.ref f)) ∧ isFn K (.ref f) = true
 prop : ∀ a p f, lk a c.props = some (p, f) → plainGet K c.C a = true ∧ hasDictIn K c.C = true ∧ findIn K (.ref c.C) a = some (some (.ref p)) ∧ specialIn K (.ref p) "__get__" = some (some (.builtin "property.__get__")) ∧ takesIn K (.ref p) = some true ∧ ∃ rest, recIn K p "property" = some (.ref f :: rest)
noncomputable def Goal (w : World) (F : Fm) (tk : Tk) (Q : CR → Shared → Prop) (E : Value → Shared → Prop) (s : Shared) : Prop := match tk with
 | .ex e => wpAny (model prog w) F.A (eval e F.env) (fun v s' => Q (.v v) s') E s
 | .tr e => wpAny (model prog w) F.A (PySem.isTrue e F.env (eval e F.env)) (fun b s' => Q (.b b) s') E s
 | .st x => wpAny (model prog w) F.A (exec x F.env) (fun f s' => Q (.fl f) s') E s
 | .sts l => wpAny (model prog w) F.A (execs l F.env) (fun f s' => Q (.fl f) s') E s
 | .args es pos => wpAny (model prog w) F.A (spliced (backTo pos (starEach es F.env))) (fun vs s' => Q (.vs vs) s') E s
 | .wl t b => codeAny (model prog w) F.A (.whileLoop t b [] F.env) (fun r s' => match r with
  | .ok f => Q (.fl f) s'
  | .error e => cameBackBy (model prog w) F.A F.env E e s') s
structure SpOk (w : World) (C : Cf) (e : SpE) : Prop where
 keep : keepIn C.K (.ref e.fa) = true
 ok : ∀ (F : Fm) (A : Around) (ads : Wd) (st : St) (s : Shared) (svs : List SV) (vs : List Value) (k : Kt) (Q : CR → Shared → Prop) (Rr : Result → Shared → Prop), FmOk C F → (C.known = true → A.frames = some F.stk) → A.handled = none → A.depth + e.d < recursionLimit → A.units + 8 * e.d < cLine →
  e.sp svs st k → Rep w F ads st s.heap → DenL F.B ads svs vs → vs.length = e.na → Then w F ads s k Q → (∀ v s', Q (.v v) s' → Rr (.ok (.ret v)) s') → codeAny (model prog w) A (.call (.ref e.fa) ⟨vs, []⟩) Rr s
noncomputable def HxOk (w : World) (C : Cf) (h : HkE Expr) : Prop := ∀ (F : Fm) (E : Value → Shared → Prop) (ads : Wd) (st : St) (s : Shared) (k : Kt) (Q : CR → Shared → Prop), FmOk C F → F.A.depth + h.d < recursionLimit → F.A.units + 8 * h.d < cLine →
  h.sp F.sc.names st k → Rep w F ads st s.heap → Then w F ads s k Q → Goal w F (.ex h.x) Q E s
noncomputable def HsOk (w : World) (C : Cf) (h : HkE Stmt) : Prop := ∀ (F : Fm) (E : Value → Shared → Prop) (ads : Wd) (st : St) (s : Shared) (k : Kt) (Q : CR → Shared → Prop), FmOk C F → F.A.depth + h.d < recursionLimit → F.A.units + 8 * h.d < cLine →
  h.sp F.sc.names st k → Rep w F ads st s.heap → Then w F ads s k Q → Goal w F (.st h.x) Q E s
structure CfOk (w : World) (C : Cf) : Prop where
 fns : ∀ e ∈ C.fns, FnOk C.K e ∧ keepIn C.K (.ref e.fa) = true ∧ ∀ x ∈ e.scope.names, x.2 ≠ .cell
 cls : ∀ c ∈ C.cls, ClsOk C.K c
 globs : ∀ x v, lk x C.globs = some v → (∀ B ads, Den B ads (toSV v) v) ∧ (nsIn C.K mainGlobals x = some (some v) ∨ (nsIn C.K mainGlobals x = some none ∧ bootBuiltins x = some v ∧ x ≠ "__name__"))
 sps : ∀ e ∈ C.sps, SpOk w C e
 hxs : ∀ e ∈ C.hxs, HxOk w C e
 hss : ∀ e ∈ C.hss, HsOk w C e
noncomputable def Sound (w : World) (C : Cf) (n : Nat) : Prop := ∀ (F : Fm) (E : Value → Shared → Prop) (tk : Tk) (st : St) (k : Kt) (ads : Wd) (s : Shared) (Q : CR → Shared → Prop),
 FmOk C F → F.A.depth + n < recursionLimit → F.A.units + 8 * n < cLine → ev C n F.sc.names tk st k → Rep w F ads st s.heap → Then w F ads s k Q → Goal w F tk Q E s
section
variable {w : World} {C : Cf} {F : Fm} {ads : Wd} {s : Shared}
theorem find_fn {f n : Nat} {e : FnE} : ∀ {l : List FnE}, findFn f n l = some e → e ∈ l ∧ e.fa = f ∧ e.na = n
 | [], h => by cases h
 | x :: r, h => by
  unfold findFn at h
  cases q : Nat.beq x.fa f with
  | true =>
   rw [q] at h
   cases q' : Nat.beq x.na n with
   | true => rw [q'] at h; cases h; exact ⟨.head _, Nat.eq_of_beq_eq_true q, Nat.eq_of_beq_eq_true q'⟩
   | false => rw [q'] at h; obtain ⟨a, b⟩ := find_fn h; exact ⟨.tail _ a, b⟩
  | false => rw [q] at h; obtain ⟨a, b⟩ := find_fn h; exact ⟨.tail _ a, b⟩
theorem find_cls {c : Nat} {e : ClsE} : ∀ {l : List ClsE}, findCls c l = some e → e ∈ l ∧ e.C = c
 | [], h => by cases h
 | x :: r, h => by
  unfold findCls at h
  cases q : Nat.beq x.C c with
  | true => rw [q] at h; cases h; exact ⟨.head _, Nat.eq_of_beq_eq_true q⟩
  | false => rw [q] at h; obtain ⟨a, b⟩ := find_cls h; exact ⟨.tail _ a, b⟩
theorem rep_inst {st : St} {i c : Nat} {fs : List (Str × SV)} {v : Value} {m : Str → Option Value} {news lw : List (Addr × Obj)} (X : RepX w F ads st s.heap m news lw) (hi : st.led[i]? = some (.inst c fs)) (d : Den F.B ads (.obj i) v) :
  ∃ pre post a dd es n, news = pre ++ (a, instObj c dd) :: (dd, dictOf es n) :: post ∧ v = .ref a ∧ EntR w.params F.B ads es fs ∧ InstAt s.heap a (instObj c dd) c (some (dictOf es n)) ∧
   (∀ p ∈ pre ++ [(a, instObj c dd)], p.1 ≠ dd) ∧ (∀ p ∈ post ++ (ads.fz ++ lw), p.1 ≠ dd) ∧
   ∀ es' n' fs', EntR w.params F.B ads es' fs' → LedR w.params F.B ads ads.ads (st.led.set i (.inst c fs')) (pre ++ (a, instObj c dd) :: (dd, dictOf es' n') :: post) := by
 obtain ⟨pre, ps, post, a, dd, h1, h2, h3, h4⟩ := X.led.at hi
 obtain ⟨es, n, he, rfl⟩ := h3.inv
 ·obtain ⟨p, hp, hv⟩ := d
  rw [h2] at hp
  cases hp
  have h1' : news = pre ++ (a, instObj c dd) :: (dd, dictOf es n) :: post := by rw [h1]; simp
  have nd := X.nd
  rw [h1'] at nd
  have I : InstAt s.heap a (instObj c dd) c (some (dictOf es n)) := InstAt.of_news (h₀ := F.h₀) (L := F.L) X.nw (by rw [h1']; simp) (by rw [h1']; simp)
  have e : (pre ++ (a, instObj c dd) :: (dd, dictOf es n) :: post ++ (ads.fz ++ lw)).map (·.1) = (pre ++ [(a, instObj c dd)]).map (·.1) ++ dd :: (post ++ (ads.fz ++ lw)).map (·.1) := by simp
  rw [e] at nd
  have nd' := List.nodup_append.mp nd
  refine ⟨pre, post, a, dd, es, n, h1', hv, he, I, fun q hq => ?_, fun q hq => ?_, fun es' n' fs' e' => by simpa using h4 _ _ (One.inst (n := n') e')⟩
  ·exact nd'.2.2 q.1 (List.mem_map_of_mem hq) dd (.head _)
  ·intro ee
   have := (List.nodup_cons.mp nd'.2.1).1
   exact this (ee ▸ List.mem_map_of_mem hq)
theorem attr_sound {st : St} {x : SV} {a : Str} {k : SV → Prop} {v : Value} {E : Value → Shared → Prop} {Q : Value → Shared → Prop} {ex : Bool} (cok : CfOk w C) (ok : FmOk C F) (R : Rep w F ads st s.heap) (d : Den F.B ads x v) (h : attrT C st x a k)
  (hQ : ∀ y u t, k y → Den F.B ads y u → Q u { s with toks := t }) : wpAny (model prog w) F.A (getAttr v a ex) Q E s := by
 obtain ⟨i, rfl, g⟩ := onOb_some h
 obtain ⟨c, fs, hi, g⟩ := onInst_some g
 obtain ⟨ce, hc, g⟩ := onOpt_some g
 obtain ⟨hn, g⟩ := onTr_some g
 obtain ⟨y, hy, gk⟩ := onOpt_some g
 obtain ⟨m, news, lw, X⟩ := R
 obtain ⟨pre, post, b, dd, es, n, h1, rfl, he, I, _⟩ := rep_inst X hi d
 obtain ⟨hm, rfl⟩ := find_cls hc
 obtain ⟨g1, g2, g3⟩ := (cok.cls ce hm).get a hn
 obtain ⟨u, e1, e2⟩ := he.get hy
 exact get_own X.fr ok.X I g1 g2 g3 rfl e1 e2.handed (hQ y u _ gk e2)
theorem put_length {α : Type} (x : Str) (v : α) : ∀ l : List (Str × α), (put x v l).length ≤ l.length + 1
 | [] => Nat.le_refl _
 | (y, a) :: r => by
  unfold put
  cases Fast.sEq x y with
  | true => exact Nat.le_succ _
  | false => exact Nat.succ_le_succ (put_length x v r)
theorem setAttr_sound {st : St} {x y : SV} {a : Str} {k : St → Prop} {v u : Value} {E : Value → Shared → Prop} {Q : Unit → Shared → Prop} (cok : CfOk w C) (ok : FmOk C F) (R : Rep w F ads st s.heap) (d : Den F.B ads x v) (d' : Den F.B ads y u) (h : setAttrT C st x a y k)
  (hQ : ∀ st' h' t, k st' → Rep w F ads st' h' → Q () { s with heap := h', toks := t }) : wpAny (model prog w) F.A (setAttr v a u) Q E s := by
 obtain ⟨i, rfl, g⟩ := onOb_some h
 obtain ⟨c, fs, hi, g⟩ := onInst_some g
 obtain ⟨ce, hc, g⟩ := onOpt_some g
 obtain ⟨hn, g⟩ := onTr_some g
 obtain ⟨hz, gk⟩ := onTr_some g
 obtain ⟨m, news, lw, X⟩ := R
 obtain ⟨pre, post, b, dd, es, n, h1, rfl, he, I, n1, n2, h4⟩ := rep_inst X hi d
 obtain ⟨hm, rfl⟩ := find_cls hc
 obtain ⟨g1, g2, g3⟩ := (cok.cls ce hm).get a hn
 obtain ⟨s1, s2, s3⟩ := (cok.cls ce hm).set a hn
 have he' := he.set (x := a) (t := s.toks + 1) d'
 have hU : Upd dd (dictOf es n) (dictOf (putL a (PyData.keyHash w.params a) (.str a (s.toks + 1)) u es) (putN a es n)) (news ++ (ads.fz ++ lw)) (pre ++ (b, instObj ce.C dd) :: (dd, dictOf (putL a (PyData.keyHash w.params a) (.str a (s.toks + 1)) u es) (putN a es n)) :: post ++ (ads.fz ++ lw)) := by
  rw [h1]
  have : ∀ (l : List (Addr × Obj)), (∀ p ∈ l, p.1 ≠ dd) → Upd dd (dictOf es n) (dictOf (putL a (PyData.keyHash w.params a) (.str a (s.toks + 1)) u es) (putN a es n)) (l ++ (dd, dictOf es n) :: (post ++ (ads.fz ++ lw))) (l ++ (dd, dictOf (putL a (PyData.keyHash w.params a) (.str a (s.toks + 1)) u es) (putN a es n)) :: (post ++ (ads.fz ++ lw))) := by
   intro l
   induction l with
   | nil => intro _; exact .head n2
   | cons p l ih => intro hp; exact .tail (hp p (.head _)) (ih fun q hq => hp q (.tail _ hq))
  have z := this (pre ++ [(b, instObj ce.C dd)]) n1
  simpa using z
 refine set_dict X.fr ok.X X.nw I rfl s1 s2 s3 g2 he.some rfl hU ?_ (fun h' F' N' => hQ _ h' _ gk ⟨m, _, lw, F', N', X.loc, h4 _ _ _ he', ?_, X.ups⟩)
 ·have l1 := he'.length
  have l2 := put_length a y fs
  have l3 := Nat.le_of_ble_eq_true hz
  lia
 ·have nd := X.nd
  rw [h1] at nd
  simpa using nd
theorem find_sp {f n : Nat} {e : SpE} : ∀ {l : List SpE}, findSp f n l = some e → e ∈ l ∧ e.fa = f ∧ e.na = n
 | [], h => by cases h
 | x :: r, h => by
  unfold findSp at h
  cases q : Nat.beq x.fa f with
  | true =>
   rw [q] at h
   cases q' : Nat.beq x.na n with
   | true => rw [q'] at h; cases h; exact ⟨.head _, Nat.eq_of_beq_eq_true q, Nat.eq_of_beq_eq_true q'⟩
   | false => rw [q'] at h; obtain ⟨a, b⟩ := find_sp h; exact ⟨.tail _ a, b⟩
  | false => rw [q] at h; obtain ⟨a, b⟩ := find_sp h; exact ⟨.tail _ a, b⟩
theorem find_hk {α : Type} {a b : Nat} {e : HkE α} : ∀ {l : List (HkE α)}, findHk a b l = some e → e ∈ l
 | [], h => by cases h
 | x :: r, h => by
  unfold findHk at h
  cases q : Nat.beq x.line a with
  | true =>
   rw [q] at h
   cases q' : Nat.beq x.col b with
   | true => rw [q'] at h; cases h; exact .head _
   | false => rw [q'] at h; exact .tail _ (find_hk h)
  | false => rw [q] at h; exact .tail _ (find_hk h)
theorem lookup_reverse_of_mem {x : Str} {v : Value} : ∀ {l : List (Str × Value)}, (l.map (·.1)).Nodup → (x, v) ∈ l → l.reverse.lookup x = some v := by
 intro l nd hm
 have : ∀ (l : List (Str × Value)), (l.map (·.1)).Nodup → (x, v) ∈ l → l.lookup x = some v := by
  intro l
  induction l with
  | nil => intro _ h; cases h
  | cons p r ih =>
   intro nd h
   rw [List.map_cons, List.nodup_cons] at nd
   rcases List.mem_cons.mp h with e | h
   ·subst e
    rw [List.lookup_cons, beq_self_eq_true]
   ·rw [List.lookup_cons]
    have : (x == p.1) = false := beq_eq_false_iff_ne.mpr fun e => nd.1 (e ▸ List.mem_map_of_mem h)
    rw [this]; exact ih nd.2 h
 refine this _ ?_ (by simpa using hm)
 rw [List.map_reverse]
 exact (List.reverse_perm _).nodup_iff.mpr nd
theorem zip_names : ∀ (xs : List Str) (vs : List Value), xs.length = vs.length → (zipV xs vs).map (·.1) = xs
 | [], [], _ => rfl
 | x :: xs, v :: vs, h => by
  show x :: (zipV xs vs).map (·.1) = _
  rw [zip_names xs vs (by simpa using h)]
 | [], _ :: _, h => by simp at h
 | _ :: _, [], h => by simp at h
theorem lk_zip {B : Heap} {x : Str} {sv : SV} {more : List (Str × Value)} (hmore : ∀ y ∈ more, Den B ads (toSV y.2) y.2) : ∀ {xs : List Str} {svs : List SV} {vs : List Value}, DenL B ads svs vs → lk x (zipS xs svs ++ toSVs more) = some sv →
  ∃ v, (x, v) ∈ zipV xs vs ++ more ∧ Den B ads sv v := by
 have base : ∀ more : List (Str × Value), (∀ y ∈ more, Den B ads (toSV y.2) y.2) → lk x (toSVs more) = some sv → ∃ v, (x, v) ∈ more ∧ Den B ads sv v := by
  intro more
  induction more with
  | nil => intro _ h; cases h
  | cons p r ih =>
   intro hm h
   obtain ⟨y, u⟩ := p
   unfold toSVs lk at h
   cases q : Fast.sEq x y with
   | true =>
    rw [q] at h; cases h
    have := sEq_true q; subst this
    exact ⟨u, .head _, hm _ (.head _)⟩
   | false =>
    rw [q] at h
    obtain ⟨v, a, b⟩ := ih (fun z hz => hm z (.tail _ hz)) h
    exact ⟨v, .tail _ a, b⟩
 intro xs
 induction xs with
 | nil => intro svs vs d h; exact base more hmore (by cases svs <;> exact h)
 | cons y ys ih =>
  intro svs vs d h
  cases d with
  | nil => exact base more hmore h
  | cons dx dr =>
   rename_i sx u sxs us
   have h' : lk x ((y, sx) :: (zipS ys sxs ++ toSVs more)) = some sv := h
   unfold lk at h'
   cases q : Fast.sEq x y with
   | true =>
    rw [q] at h'; cases h'
    have := sEq_true q; subst this
    exact ⟨u, .head _, dx⟩
   | false =>
    rw [q] at h'
    obtain ⟨v, a, b⟩ := ih dr h'
    exact ⟨v, .tail _ a, b⟩
set_option backward.match.sparseCases true
theorem call_code_gen {args : Args} {n f : Nat} {svs : List SV} {vs : List Value} {st : St} {k : Kt} {e : FnE} {A : Around} {Rr : Result → Shared → Prop} {Q : CR → Shared → Prop} (ih : Sound w C n) (cok : CfOk w C) (ok : FmOk C F)
  (hA : C.known = true → A.frames = some F.stk) (hh : A.handled = none) (hd : A.depth + n < recursionLimit) (hd' : A.depth + 1 + n < recursionLimit) (hu : A.units + 3 + 8 * n < cLine) (R : Rep w F ads st s.heap) (D : DenL F.B ads svs vs) (hf : findFn f svs.length C.fns = some e)
  (hb : ∀ (oc : Value) (od : Option Addr) (osl : Array (Option Value)) (fd : FuncData), C.K.lookup e.fa = some (⟨oc, od, .func fd, osl⟩ : Obj) → C.K.In s.heap → BindsTo s fd args (zipV e.names vs ++ e.more))
  (h : ev C n e.scope.names (.sts e.body) { loc := zipS e.names svs ++ toSVs e.more, led := st.led } (backT st k)) (T : Then w F ads s k Q) (hR : ∀ v s', Q (.v v) s' → Rr (.ok (.ret v)) s') :
  codeAny (model prog w) A (.call (.ref f) args) Rr s := by
 obtain ⟨hm, rfl, hna⟩ := find_fn hf
 have fo := (cok.fns e hm).1
 have fcell := (cok.fns e hm).2.2
 have nocell : ∀ x, e.scope.names.lookup x = some .cell → (NameKind.cell ≠ NameKind.cell) := fun x hx => fcell _ (mem_of_lookup hx)
 have floc : ∀ x ∈ e.names ++ e.more.map (·.1), e.scope.names.lookup x = some .local := fun x hx => (fo.loc x hx).resolve_right fun q => nocell x q.1 rfl
 obtain ⟨oc, od, osl, fd, g1, g2, g3, g4, g5, g6, g7⟩ := fo.at_
 obtain ⟨m, news, lw, X⟩ := R
 have XK : C.K.In s.heap := ok.X.keeps X.fr.keep
 have hlen : vs.length = e.na := by rw [← D.length, hna]
 obtain ⟨oL, es, ep, hL, hLd, hLk, hLf⟩ := X.fr.ns
 have hF0 : F.h₀.get? F.L = none := by
  cases q : F.h₀.get? F.L with
  | none => rfl
  | some o => exact absurd (Heap.lt_size q) (Nat.not_lt.mpr X.fr.above)
 let all : List (Addr × Obj) := news ++ (ads.fz ++ ((F.L, oL) :: lw))
 have pmA : all.Perm ((F.L, oL) :: (news ++ (ads.fz ++ lw))) := by
  show (news ++ (ads.fz ++ ((F.L, oL) :: lw))).Perm _
  rw [← List.append_assoc, ← List.append_assoc]
  exact List.perm_middle
 have nwA : ∀ p ∈ all, s.heap.get? p.1 = some p.2 ∧ F.h₀.get? p.1 = none := fun p hp => by
  rcases List.mem_cons.mp (pmA.mem_iff.mp hp) with rfl | q
  ·exact ⟨hL, hF0⟩
  ·exact ⟨(X.nw p q).1, (X.nw p q).2.2⟩
 have ndA : (all.map (·.1)).Nodup := by
  refine (pmA.map (·.1)).nodup_iff.mpr (List.nodup_cons.mpr ⟨fun q => ?_, X.nd⟩)
  obtain ⟨p, hp, e⟩ := List.mem_map.mp q
  exact (X.nw p hp).2.1 e
 have nm : ∀ b o, F.h₀.get? b = some o → b ∉ all.map (·.1) := fun b o e q => by
  obtain ⟨p, hp, rfl⟩ := List.mem_map.mp q
  rw [(nwA p hp).2] at e; cases e
 have stay : F.h₀.StaysIn (hideAll s.heap (all.map (·.1))) := fun b o e => hideAll_get _ (X.fr.keep b o e) (nm b o e)
 refine (codeAny_call_def (body := e.body) (binds := zipV e.names vs ++ e.more) (by omega) (XK _ _ g1) rfl (ok.G.lim.keeps X.fr.keep) (by rw [g5, g6]; exact codeRec_of XK fo.code) g2 (hb oc od osl fd g1 XK)
  (by rw [g3]; exact fcell) (by
   rw [g3]
   intro x hx
   refine floc x.1 ?_
   rcases List.mem_append.mp hx with q | q
   ·exact List.mem_append_left _ (zip_names e.names vs (by rw [fo.len, hlen]) ▸ List.mem_map_of_mem q)
   ·exact List.mem_append_right _ (List.mem_map_of_mem q)) (fun h₁ hns hk₁ => ?_) (by rw [g3]; exact fo.co) (by rw [g3]; exact fo.gen) (by rw [g3]; exact fo.kind))
 rw [g4]
 let en : Env := envOf e.qual e.scope s.heap.objs.size e.fa e.cd
 let F' : Fm := ⟨F.B, hideAll s.heap (all.map (·.1)), s.heap.objs.size, en, A.deeper en, en :: F.stk, (F.L, oL) :: lw, F.quiet⟩
 have low' : LowOk (en :: F.stk) s.heap.objs.size ((F.L, oL) :: lw) := by
  exact (ok.low.ups X.ups).push (by show e.scope.kind ≠ _; rw [fo.kind]; decide) rfl fun vs q => by rw [hLd] at q; cases q
 have ok' : FmOk C F' := ⟨ok.X.keeps stay, ok.G.keeps stay, fun b o e => stay b o (ok.stay b o e), fo.kind, hh, fun q => Around.frames_deeper (hA q), ok.loud, low', rfl, rfl, rfl, fun _ _ => rfl, fun x hx => absurd rfl (nocell x hx)⟩
 have nd : ((zipV e.names vs ++ e.more).map (·.1)).Nodup := by
  rw [List.map_append, zip_names e.names vs (by rw [fo.len, hlen])]; exact fo.nd
 have R' : Rep w F' ads { loc := zipS e.names svs ++ toSVs e.more, led := st.led } h₁ := by
  refine ⟨_, news, (F.L, oL) :: lw, ⟨hns, fun b o q => hk₁ b o (of_hideAll _ q), Nat.le_of_eq (hideAll_size _ _)⟩, fun p hp => ⟨hk₁ _ _ (nwA p hp).1, Nat.ne_of_lt (Heap.lt_size (nwA p hp).1), hideAll_none _ (List.mem_map_of_mem hp)⟩, ?_, X.led, ndA, Ups.refl _⟩
  intro x sv hx
  obtain ⟨v, a, b⟩ := lk_zip (fun y hy => fo.more y hy F.B ads) D hx
  exact ⟨v, lookup_reverse_of_mem nd a, b⟩
 have T' : Then w F' ads { s with heap := h₁, toks := s.toks + (zipV e.names vs ++ e.more).length } (backT st k) (fun c s' => match c with
   | .fl f => Rr (.ok (.ret (match f with | .ret v => v | _ => .none))) s'
   | _ => False) := by
  intro r st' more c s' hk R1 x d
  obtain ⟨m', news', lw', X'⟩ := R1
  have back : Rep w F (ads ++ more) { loc := st.loc, led := st'.led } s'.heap := by
   have u := X'.ups
   have nw' := X'.nw
   have nd' := X'.nd
   cases u with
   | cons u =>
    rename_i sl lw₂
    have pm : (news' ++ ((ads ++ more).fz ++ ((F.L, { oL with slots := sl }) :: lw₂))).Perm ((F.L, { oL with slots := sl }) :: (news' ++ ((ads ++ more).fz ++ lw₂))) := by
     rw [← List.append_assoc, ← List.append_assoc]
     exact List.perm_middle
    have nd2 := (pm.map (·.1)).nodup_iff.mp nd'
    rw [List.map_cons, List.nodup_cons] at nd2
    have hLn := (nw' _ (pm.mem_iff.mpr (.head _))).1
    refine ⟨m, news', lw₂, ⟨⟨_, es, ep, hLn, hLd, hLk, hLf⟩, fun b o q => X'.fr.keep b o (stay b o q), X.fr.above⟩, fun p hp => ⟨(nw' p (pm.mem_iff.mpr (.tail _ hp))).1, fun q => ?_, ?_⟩, X.loc.mono, X'.led, nd2.2, X.ups.trans u⟩
    ·exact nd2.1 (List.mem_map.mpr ⟨p, hp, q⟩)
    ·cases q : F.h₀.get? p.1 with
     | none => rfl
     | some o =>
      have hz : (hideAll s.heap (all.map (·.1))).get? p.1 = none := (nw' p (pm.mem_iff.mpr (.tail _ hp))).2.2
      rw [stay _ _ q] at hz; cases hz
  have x' : Nx F s s' := (Nx.mk' s h₁ _).trans x
  cases r with
  | ret v =>
   cases c with
   | fl fl => cases fl with
    | ret u => exact hR _ _ (T.of (r := .v v) (c := .v u) hk back x' d)
    | _ => exact d.elim
   | _ => exact d.elim
  | next =>
   cases c with
   | fl fl => cases fl with
    | next => exact hR _ _ (T.of (r := .v .none) (c := .v .none) hk back x' rfl)
    | _ => exact d.elim
   | _ => exact d.elim
  | _ => exact hk.elim
 exact ih F' _ (.sts e.body) _ _ ads _ _ ok' (by show A.depth + 1 + n < _; omega) (by show A.units + 3 + 8 * n < _; omega) h R' T'
set_option backward.match.sparseCases false
theorem call_code {n f : Nat} {svs : List SV} {vs : List Value} {st : St} {k : Kt} {e : FnE} {A : Around} {Rr : Result → Shared → Prop} {Q : CR → Shared → Prop} (ih : Sound w C n) (cok : CfOk w C) (ok : FmOk C F)
  (hA : C.known = true → A.frames = some F.stk) (hh : A.handled = none) (hd : A.depth + n < recursionLimit) (hd' : A.depth + 1 + n < recursionLimit) (hu : A.units + 3 + 8 * n < cLine) (R : Rep w F ads st s.heap) (D : DenL F.B ads svs vs) (hf : findFn f svs.length C.fns = some e)
  (h : ev C n e.scope.names (.sts e.body) { loc := zipS e.names svs ++ toSVs e.more, led := st.led } (backT st k)) (T : Then w F ads s k Q) (hR : ∀ v s', Q (.v v) s' → Rr (.ok (.ret v)) s') :
  codeAny (model prog w) A (.call (.ref f) ⟨vs, []⟩) Rr s := by
 refine call_code_gen ih cok ok hA hh hd hd' hu R D hf (fun oc od osl fd g1 XK => ?_) h T hR
 obtain ⟨hm, rfl, hna⟩ := find_fn hf
 obtain ⟨oc', od', osl', fd', g1', g2, g3, g4, g5, g6, g7⟩ := (cok.fns e hm).1.at_
 rw [g1] at g1'
 cases g1'
 exact g7 s vs XK (by rw [← D.length, hna])
theorem callT_code {n f : Nat} {svs : List SV} {vs : List Value} {st : St} {k : Kt} {A : Around} {Rr : Result → Shared → Prop} {Q : CR → Shared → Prop} (ih : Sound w C n) (cok : CfOk w C) (ok : FmOk C F)
  (hA : C.known = true → A.frames = some F.stk) (hh : A.handled = none) (hd' : A.depth + 1 + n < recursionLimit) (hu : A.units + 3 + 8 * n < cLine) (R : Rep w F ads st s.heap) (D : DenL F.B ads svs vs)
  (h : callT C n (ev C n) f svs st k) (T : Then w F ads s k Q) (hR : ∀ v s', Q (.v v) s' → Rr (.ok (.ret v)) s') : codeAny (model prog w) A (.call (.ref f) ⟨vs, []⟩) Rr s := by
 unfold callT at h
 split at h
 ·rename_i e he
  split at h
  ·rename_i hb
   obtain ⟨hm, rfl, hna⟩ := find_sp he
   have l := Nat.le_of_ble_eq_true hb
   exact (cok.sps e hm).ok F A ads st s svs vs k Q Rr ok hA hh (by lia) (by lia) h R D (by rw [← D.length, hna]) T hR
  ·exact h.elim
 ·split at h
  ·rename_i e he
   exact call_code ih cok ok hA hh (by lia) hd' hu R D he h T hR
  ·exact h.elim
theorem callT_keep {n f : Nat} {svs : List SV} {st : St} {k : Kt} {evn : List (Str × NameKind) → Tk → St → Kt → Prop} (cok : CfOk w C) (h : callT C n evn f svs st k) : keepIn C.K (.ref f) = true := by
 unfold callT at h
 split at h
 ·rename_i e he
  obtain ⟨hm, rfl, hna⟩ := find_sp he
  exact (cok.sps e hm).keep
 ·split at h
  ·rename_i e he
   obtain ⟨hm, rfl, hna⟩ := find_fn he
   exact (cok.fns e hm).2.1
  ·exact h.elim
theorem callT_sound {n f : Nat} {svs : List SV} {vs : List Value} {st : St} {k : Kt} {E : Value → Shared → Prop} {Q : CR → Shared → Prop} (ih : Sound w C n) (cok : CfOk w C) (ok : FmOk C F)
  (hd : F.A.depth + (n + 1) < recursionLimit) (hu : F.A.units + 8 * (n + 1) < cLine) (R : Rep w F ads st s.heap) (D : DenL F.B ads svs vs)
  (h : callT C n (ev C n) f svs st k) (T : Then w F ads s k Q) :
  wpAny (model prog w) F.A (call (.ref f) vs) (fun v s' => Q (.v v) s') E s :=
 wpAny_call (callT_code ih cok ok ok.stack ok.hand (by lia) (by lia) R D h T fun _ _ q => q)
theorem meth_sound {st : St} {x : SV} {a : Str} {k : Addr → Prop} {v : Value} {E : Value → Shared → Prop} {Q : Value × List Value → Shared → Prop} {pl : Sem Bool} (cok : CfOk w C) (ok : FmOk C F) (R : Rep w F ads st s.heap) (d : Den F.B ads x v) (h : methT C st x a k)
  (hQ : ∀ f, k f → isFn C.K (.ref f) = true → Q (.ref f, [v]) s) : wpAny (model prog w) F.A (getMethod v a pl) Q E s := by
 obtain ⟨i, rfl, g⟩ := onOb_some h
 obtain ⟨c, fs, hi, g⟩ := onInst_some g
 obtain ⟨ce, hc, g⟩ := onOpt_some g
 obtain ⟨f, hf, g⟩ := onOpt_some g
 obtain ⟨hn, gk⟩ := onNo_some g
 obtain ⟨m, news, lw, X⟩ := R
 obtain ⟨pre, post, b, dd, es, n, h1, rfl, he, I, _⟩ := rep_inst X hi d
 obtain ⟨hm, rfl⟩ := find_cls hc
 obtain ⟨g1, g2, g3⟩ := (cok.cls ce hm).meth a f hf
 exact method_inst X.fr ok.X I g1 g2 g3 (he.miss hn) (hQ f gk g3)
theorem prop_sound {st : St} {x : SV} {a : Str} {f : Addr} {v : Value} {E : Value → Shared → Prop} {Q : Value → Shared → Prop} {ex : Bool} (cok : CfOk w C) (ok : FmOk C F) (R : Rep w F ads st s.heap) (d : Den F.B ads x v) (h : propT C st x a = some f)
  (hQ : ∀ Rr : Result → Shared → Prop, (∀ u s', handedIn u = true → Q u s' → Rr (.ok (.ret u)) s') → codeAny (model prog w) F.A.in1 (.call (.ref f) ⟨[v], []⟩) Rr { s with toks := s.toks + 1 }) : wpAny (model prog w) F.A (getAttr v a ex) Q E s := by
 cases x <;> first | exact no_some h | skip
 obtain ⟨so, hi, g⟩ := bO_some h
 cases so <;> first | exact no_some g | skip
 obtain ⟨ce, hc, g⟩ := bO_some g
 obtain ⟨p, hf, g⟩ := bO_some g
 cases g
 obtain ⟨m, news, lw, X⟩ := R
 obtain ⟨pre, post, b, dd, es, n, h1, rfl, he, I, _⟩ := rep_inst X hi d
 obtain ⟨hm, rfl⟩ := find_cls hc
 obtain ⟨g1, g2, g3, g4, g5, rest, g6⟩ := (cok.cls ce hm).prop a p.1 p.2 hf
 refine get_prop X.fr ok.X I g1 g2 g3 g4 g5 g6 ?_
 exact hQ _ fun u s' hu hq => by
  show wpAny (model prog w) F.A (handedOut u) Q E s'
  rw [handedOut_of hu]
  exact wpAny_pure hq
end
theorem mro_deque : mroOf (.type "collections.deque") = pure [.type "collections.deque", .type "object"] := by rw [mroOf_type]; kernel_rfl
theorem lookup_deque_new : typeLookup (.type "collections.deque") "__new__" = pure (some (.builtin "collections.deque.__new__")) := by rw [typeLookup_type, builtinLookup_eq_fast]; kernel_rfl
theorem slot_deque_init : Slot "collections.deque" "__init__" "collections.deque.__init__" :=
 .of (owner := "collections.deque") (n := "__init__") (by rw [typeLookup_type, builtinLookup_eq_fast]; kernel_rfl) (by decide +kernel) (by decide +kernel) (by decide +kernel)
  (by first | exact .inl (by decide +kernel) | exact .inr (by decide +kernel)) (by rw [isSubtype_type]; kernel_rfl)
theorem called_deque : TypeCalled "collections.deque" "collections.deque.__new__" "collections.deque.__init__" :=
 ⟨by decide +kernel, by decide +kernel, ⟨_, _, mro_deque⟩, madeBy_type mro_deque lookup_deque_new (by decide +kernel), by decide +kernel, by rw [isSubtype_type]; kernel_rfl, slot_deque_init⟩
theorem typeCall_deque_0 : checkTypeCall "collections.deque" ⟨[], []⟩ = pure () := by kernel_rfl
theorem newCall_deque_0 : checkBuiltinCall "collections.deque.__new__" ⟨[.type "collections.deque"], []⟩ = pure () := by kernel_rfl
theorem entry_deque_new : entryFor table "collections.deque.__new__" = some Builtin.«collections.deque.__new__» := entryFor_of_tree (by kernel_rfl)
theorem entry_deque_init : entryFor table "collections.deque.__init__" = some Builtin.«collections.deque.__init__» := entryFor_of_tree (by kernel_rfl)
theorem args_deque_init (a : Value) : argsOk "collections.deque.__init__" ⟨[a], []⟩ := by unfold argsOk; kernel_rfl
section
variable {w : World} {A : Around} {E : Value → Shared → Prop} {s : Shared}
theorem deque_new_meets : Meets (Builtin.«collections.deque.__new__» ⟨[.type "collections.deque"], []⟩) (fun _ R s => R (.ok (.ret (.ref s.heap.objs.size))) { s with heap := s.heap.push (dequeO .none (rawInt 0)) }) := by
 refine Meets.of_wp fun prog w A R s hs => ?_
 have hsub : isSubtype (.type "collections.deque") (.type "collections.deque") = pure true := by rw [isSubtype_type]; kernel_rfl
 unfold Builtin.«collections.deque.__new__» Builtin.Deque.newArgs Builtin.Deque.new Builtin.Deque.ty
 repeat (any_goals (first | assumption | wp_step))
 exact ⟨_, rfl, hs⟩
theorem deque_init_meets (a : Addr) : Meets (Builtin.«collections.deque.__init__» ⟨[.ref a], []⟩) (fun _ R s => s.heap.get? a = some (dequeO .none (rawInt 0)) ∧ ∀ h', h'.get? a = some (dequeO .none (rawInt 0)) → Heap.SameBut a s.heap h' → R (.ok (.ret .none)) { s with heap := h' }) := by
 refine Meets.of_wp fun prog w A R s hs => ?_
 obtain ⟨ho, hq⟩ := hs
 unfold Builtin.«collections.deque.__init__»
 repeat (any_goals (first | assumption | wp_step))
 exact ⟨_, rfl, hq _ (Heap.get?_update_self _ ho rfl) (Heap.SameBut.update ..)⟩
theorem call_deque {Q : Value → Shared → Prop} (h : ∀ h', h'.get? s.heap.objs.size = some (dequeO .none (rawInt 0)) → Heap.SameBut s.heap.objs.size (s.heap.push (dequeO .none (rawInt 0))) h' → Q (.ref s.heap.objs.size) { s with heap := h' }) :
  wpAny (model prog w) A (call (.type "collections.deque") []) Q E s := by
 refine callType_meets (Q₁ := fun v s₁ => v = .ref s.heap.objs.size ∧ s₁ = { s with heap := s.heap.push (dequeO .none (rawInt 0)) }) called_deque typeCall_deque_0 newCall_deque_0 entry_deque_new entry_deque_init deque_new_meets ⟨rfl, rfl⟩ ?_
 rintro obj s₁ ⟨rfl, rfl⟩
 have g : (s.heap.push (dequeO .none (rawInt 0))).get? s.heap.objs.size = some (dequeO .none (rawInt 0)) := Heap.get?_push_size _ rfl
 exact ⟨⟨_, g, rfl⟩, args_deque_init _, _, deque_init_meets _, g, fun h' a b => ⟨rfl, h h' a b⟩⟩
end
theorem ltD {a n r : Nat} (h : a + (n + 1) < r) : a + n < r := Nat.lt_of_succ_lt h
theorem ltU {a n r : Nat} (h : a + 8 * (n + 1) < r) : a + 8 * n < r := by lia
theorem ltDl {a n d r : Nat} (h : a + (n + 1) < r) (l : d ≤ n) : a + d < r := by lia
theorem ltUl {a n d r : Nat} (h : a + 8 * (n + 1) < r) (l : d ≤ n) : a + 8 * d < r := by lia
section
variable {w : World} {C : Cf} {F : Fm} {ads : Wd} {s : Shared} {n : Nat} {st : St} {k : Kt} {Q : CR → Shared → Prop} {E : Value → Shared → Prop}
theorem ihV (ih : Sound w C n) (ok : FmOk C F) (hd : F.A.depth + (n + 1) < recursionLimit) (hu : F.A.units + 8 * (n + 1) < cLine) {e : Expr} {K : SV → St → Prop} {G : Value → Shared → Prop} (h : ev C n F.sc.names (.ex e) st (onV K)) (R : Rep w F ads st s.heap) (T : ThenV w F ads s K G) : wpAny (model prog w) F.A (eval e F.env) G E s := by
 refine ih F E (.ex e) st (onV K) ads s (fun c s' => match c with
  | .v u => G u s'
  | _ => False) ok (ltD hd) (ltU hu) h R ?_
 intro a st₁ m1 c s₁ h R₁ x₁ d₁
 cases a <;> first | exact h.elim | skip
 cases c <;> first | exact d₁.elim | skip
 exact T _ st₁ m1 _ s₁ h R₁ x₁ d₁
theorem ihB (ih : Sound w C n) (ok : FmOk C F) (hd : F.A.depth + (n + 1) < recursionLimit) (hu : F.A.units + 8 * (n + 1) < cLine) {e : Expr} {K : Bool → St → Prop} {G : Bool → Shared → Prop} (h : ev C n F.sc.names (.tr e) st (onB K)) (R : Rep w F ads st s.heap) (T : ∀ x st₁ m1 y s₁, K x st₁ → Rep w F (ads ++ m1) st₁ s₁.heap → Nx F s s₁ → x = y → G y s₁) : wpAny (model prog w) F.A (PySem.isTrue e F.env (eval e F.env)) G E s := by
 refine ih F E (.tr e) st (onB K) ads s (fun c s' => match c with
  | .b u => G u s'
  | _ => False) ok (ltD hd) (ltU hu) h R ?_
 intro a st₁ m1 c s₁ h R₁ x₁ d₁
 cases a <;> first | exact h.elim | skip
 cases c <;> first | exact d₁.elim | skip
 exact T _ st₁ m1 _ s₁ h R₁ x₁ d₁
theorem ihVs (ih : Sound w C n) (ok : FmOk C F) (hd : F.A.depth + (n + 1) < recursionLimit) (hu : F.A.units + 8 * (n + 1) < cLine) {es : List Expr} {pos : Pos} {K : List SV → St → Prop} {G : List Value → Shared → Prop} (h : ev C n F.sc.names (.args es pos) st (onVs K)) (R : Rep w F ads st s.heap) (T : ∀ x st₁ m1 y s₁, K x st₁ → Rep w F (ads ++ m1) st₁ s₁.heap → Nx F s s₁ → DenL F.B (ads ++ m1) x y → G y s₁) : wpAny (model prog w) F.A (spliced (backTo pos (starEach es F.env))) G E s := by
 refine ih F E (.args es pos) st (onVs K) ads s (fun c s' => match c with
  | .vs u => G u s'
  | _ => False) ok (ltD hd) (ltU hu) h R ?_
 intro a st₁ m1 c s₁ h R₁ x₁ d₁
 cases a <;> first | exact h.elim | skip
 cases c <;> first | exact d₁.elim | skip
 exact T _ st₁ m1 _ s₁ h R₁ x₁ d₁
theorem hs_sound {x : Stmt} {a b : Nat} {p : Prop} (cok : CfOk w C) (ok : FmOk C F) (hd : F.A.depth + (n + 1) < recursionLimit) (hu : F.A.units + 8 * (n + 1) < cLine) (h : hkT (findHk a b C.hss) n x F.sc.names st k p) (R : Rep w F ads st s.heap) (T : Then w F ads s k Q) (no : p → Goal w F (.st x) Q E s) : Goal w F (.st x) Q E s := by
 cases hf : findHk a b C.hss with
 | none => rw [hf] at h; exact no h
 | some hk =>
  rw [hf] at h
  obtain ⟨hb, e, h⟩ := onTr_some h
  have l := Nat.le_of_ble_eq_true hb
  have z := cok.hss hk (find_hk hf) F E ads st s k Q ok (ltDl hd l) (ltUl hu l) h R T
  rw [e] at z
  exact z
theorem hx_sound {x : Expr} {a b : Nat} {p : Prop} (cok : CfOk w C) (ok : FmOk C F) (hd : F.A.depth + (n + 1) < recursionLimit) (hu : F.A.units + 8 * (n + 1) < cLine) (h : hkT (findHk a b C.hxs) n x F.sc.names st k p) (R : Rep w F ads st s.heap) (T : Then w F ads s k Q) (no : p → Goal w F (.ex x) Q E s) : Goal w F (.ex x) Q E s := by
 cases hf : findHk a b C.hxs with
 | none => rw [hf] at h; exact no h
 | some hk =>
  rw [hf] at h
  obtain ⟨hb, e, h⟩ := onTr_some h
  have l := Nat.le_of_ble_eq_true hb
  have z := cok.hxs hk (find_hk hf) F E ads st s k Q ok (ltDl hd l) (ltUl hu l) h R T
  rw [e] at z
  exact z
theorem sound_name {x : Str} {p : Pos} (cok : CfOk w C) (ok : FmOk C F) (h : ev C (n + 1) F.sc.names (.ex (.Name x p)) st k) (R : Rep w F ads st s.heap) (T : Then w F ads s k Q) : Goal w F (.ex (.Name x p)) Q E s := by
 obtain ⟨hdb, h⟩ := onFa_some h
 have hdb' : (x == ("__debug__" : Str)) = false := by rw [beq_sEq]; exact hdb
 rcases lgc_some h with ⟨hk, h⟩ | ⟨hk, h⟩ | ⟨hk, h⟩
 ·rw [nmKind_eq] at hk
  obtain ⟨v, hv, h⟩ := onOpt_some h
  obtain ⟨m, news, lw, u, X, a, b⟩ := rep_local R hv
  exact ldE ok X.fr hk a (T.same (r := .v v) (c := .v u) h ⟨m, news, lw, X⟩ (Nx.refl s) b) hdb'
 ·rw [nmKind_eq] at hk
  obtain ⟨v, hv, h⟩ := onOpt_some h
  obtain ⟨m, news, lw, X⟩ := R
  obtain ⟨d, g⟩ := cok.globs x v hv
  obtain ⟨mg, mb, G1, G2, G3⟩ := ok.G.ns
  have fin : Q (.v v) s := T.same (r := .v (toSV v)) (c := .v v) h ⟨m, news, lw, X⟩ (Nx.refl s) (d F.B ads)
  rcases g with g | ⟨g, g', g''⟩
  ·exact ldG ok X.fr G1 (mg_of ok.X G1 g) fin hk hdb'
  ·exact ldB ok X.fr G1 (mg_none_of ok.X G1 g) G2 ((G3 x g'').trans g') fin hk hdb'
 ·rw [nmKind_eq] at hk
  obtain ⟨y, hi, h⟩ := onOpt_some h
  obtain ⟨i, rfl, h⟩ := onOb_some h
  obtain ⟨o, hv, h⟩ := onCel_some h
  obtain ⟨v, rfl, h⟩ := onOpt_some h
  exact wpAny_Name (rep_cell ok R hk hi hv fun u d => T.same (r := .v v) (c := .v u) h R (Nx.refl s) d) hdb'
theorem sound_const {c : Const} {q : Nat} {p : Pos} (h : ev C (n + 1) F.sc.names (.ex (.Constant c q p)) st k) (R : Rep w F ads st s.heap) (T : Then w F ads s k Q) : Goal w F (.ex (.Constant c q p)) Q E s := by
 cases c <;> first | exact False.elim h | skip
 ·exact wpAny_Constant_none (T.same (r := .v .none) (c := .v .none) h R (Nx.refl s) rfl)
 ·exact wpAny_Constant_bool (T.same (r := .v (.bool _)) (c := .v (.bool _)) h R (Nx.refl s) rfl)
 ·exact wpAny_Constant_int (T.same (r := .v (.int _)) (c := .v (.int _ _)) h R (nx_toks s _) ⟨_, rfl⟩)
 ·conv at h => whnf
  split at h
  ·rename_i hl
   exact wpAny_Constant_str (T.same (r := .v (.str _)) (c := .v (.str _ _)) h R (nx_toks s _) ⟨⟨_, rfl⟩, okLit_le hl⟩)
  ·exact h.elim
theorem sound_bin {l r : Expr} {op : Operator} {p : Pos} (ih : Sound w C n) (ok : FmOk C F) (hd : F.A.depth + (n + 1) < recursionLimit) (hu : F.A.units + 8 * (n + 1) < cLine) (h : ev C (n + 1) F.sc.names (.ex (.BinOp l op r p)) st k) (R : Rep w F ads st s.heap) (T : Then w F ads s k Q) : Goal w F (.ex (.BinOp l op r p)) Q E s := by
 conv at h => whnf
 refine wpAny_BinOp (ihV ih ok hd hu h R ?_)
 intro xv st₁ m1 a s₁ h R₁ x₁ d₁
 refine ihV ih ok hd hu h R₁ ?_
 intro yv st₂ m2 b s₂ h R₂ x₂ d₂
 split at h
 ·cases op <;> first | exact False.elim h | skip
  ·exact addL_sound ok R₂ (Den.mono d₁) d₂ (k := fun ds => k (.v (.dat (.list ds))) st₂) h fun ds more v s' hk R' x' d => ((T.later (more := m1) x₁).later (more := m2) x₂).of (r := .v (.dat (.list ds))) (c := .v v) hk R' x' d
 ·exact bin_sound (Den.mono d₁) d₂ h fun z v t hk d => (T.later (more := m1) x₁).of (r := .v z) (c := .v v) hk R₂ (x₂.trans (nx_toks s₂ t)) d
theorem cmpA_sound {n : Nat} {op : CmpOp} {x y : SV} {a b : Value} {k : Bool → Prop} {Q : Value → Shared → Prop} (ok : FmOk C F) (hu : F.A.units + 8 * (n + 1) < cLine) (R : Rep w F ads st s.heap) (dx : Den F.B ads x a) (dy : Den F.B ads y b) (h : cmpA n st op x y k)
  (hQ : ∀ c t, k c → Q (.bool c) { s with toks := t }) : wpAny (model prog w) F.A (compareOp op a b) Q E s := by
 unfold cmpA at h
 split at h
 ·cases op <;> first | exact cmp_sound R dx dy h hQ | skip
  ·exact eqD_sound (ne := false) ok hu R dx dy h fun c hc => hQ c s.toks hc
  ·exact eqD_sound (ne := true) ok hu R dx dy h fun c hc => hQ (!c) s.toks hc
 ·exact cmp_sound R dx dy h hQ
theorem sound_cmp {l : Expr} {ops : List CmpOp} {rs : List Expr} {p : Pos} (ih : Sound w C n) (ok : FmOk C F) (hd : F.A.depth + (n + 1) < recursionLimit) (hu : F.A.units + 8 * (n + 1) < cLine) (h : ev C (n + 1) F.sc.names (.ex (.Compare l ops rs p)) st k) (R : Rep w F ads st s.heap) (T : Then w F ads s k Q) : Goal w F (.ex (.Compare l ops rs p)) Q E s := by
 obtain ⟨op, rfl, h⟩ := onE1_some h
 obtain ⟨r, rfl, h⟩ := onE1_some h
 obtain ⟨hb, h⟩ := onFa_some h
 refine wpAny_Compare1 (ihV ih ok hd hu h R ?_) hb
 intro xv st₁ m1 a s₁ h R₁ x₁ d₁
 refine ihV ih ok hd hu h R₁ ?_
 intro yv st₂ m2 b s₂ h R₂ x₂ d₂
 exact cmpA_sound ok hu R₂ (Den.mono d₁) d₂ h fun z t hk => (T.later (more := m1) x₁).of (r := .v (.bool z)) (c := .v (.bool z)) hk R₂ (x₂.trans (nx_toks s₂ t)) rfl
theorem sound_bool {op : BoolOp} {vs : List Expr} {p : Pos} (ih : Sound w C n) (ok : FmOk C F) (hd : F.A.depth + (n + 1) < recursionLimit) (hu : F.A.units + 8 * (n + 1) < cLine) (h : ev C (n + 1) F.sc.names (.ex (.BoolOp op vs p)) st k) (R : Rep w F ads st s.heap) (T : Then w F ads s k Q) : Goal w F (.ex (.BoolOp op vs p)) Q E s := by
 conv at h => whnf
 split at h
 ·exact BoolOp_one (ih F E (.ex _) st k ads s Q ok (ltD hd) (ltU hu) h R T)
 ·rename_i e₁ e₂ rest
  split at h
  ·refine BoolOp_and (ihV ih ok hd hu h R ?_)
   intro a st₁ m1 a s₁ h R₁ x₁ d₁
   refine truth_sound R₁ d₁ h fun c t hc => ?_
   have z := ifT_sound hc
   split
   ·rename_i hct
    exact ih F E (.ex _) st₁ k (ads ++ m1) _ Q ok (ltD hd) (ltU hu) (z.1 hct) R₁ (T.later (x₁.trans (nx_toks s₁ t)))
   ·rename_i hct
    exact T.of (z.2 (by simpa using hct)) R₁ (x₁.trans (nx_toks s₁ t)) d₁
  ·refine BoolOp_or (ihV ih ok hd hu h R ?_)
   intro a st₁ m1 a s₁ h R₁ x₁ d₁
   refine truth_sound R₁ d₁ h fun c t hc => ?_
   have z := ifT_sound hc
   split
   ·rename_i hct
    exact T.of (z.1 hct) R₁ (x₁.trans (nx_toks s₁ t)) d₁
   ·rename_i hct
    exact ih F E (.ex _) st₁ k (ads ++ m1) _ Q ok (ltD hd) (ltU hu) (z.2 (by simpa using hct)) R₁ (T.later (x₁.trans (nx_toks s₁ t)))
 ·exact h.elim
theorem base_eq {o : Expr} {a : Str} {env : Env} (h : plainBase o = true) : attributeBase o a env (eval o env) = eval o env := by
 cases o <;> first | rfl | cases h
theorem sound_attr {o : Expr} {a : Str} {p : Pos} (ih : Sound w C n) (cok : CfOk w C) (ok : FmOk C F) (hd : F.A.depth + (n + 1) < recursionLimit) (hu : F.A.units + 8 * (n + 1) < cLine) (h : ev C (n + 1) F.sc.names (.ex (.Attribute o a p)) st k) (R : Rep w F ads st s.heap) (T : Then w F ads s k Q) : Goal w F (.ex (.Attribute o a p)) Q E s := by
 conv at h => whnf
 split at h
 ·exact h.elim
 ·rename_i hb
  refine Attribute_any_ (ihV ih ok hd hu h R ?_) (by
    show (do
     let o' ← attributeBase o a F.env (eval o F.env)
     standAt p.atName
     let r ← holding [o'] (getAttr o' a true)
     letTemporaryGo o o' r
     pure r) = _
    rw [base_eq hb])
  intro xv st₁ m1 u s₁ h R₁ x₁ d₁
  split at h
  ·rename_i f hf
   refine prop_sound cok ok R₁ d₁ hf fun Rr hR => ?_
   refine callT_code (Q := fun c s' => match c with | .v u => handedIn u = true ∧ Q (.v u) s' | _ => True) ih cok ok (A := F.A.in1) (fun q => (show F.A.in1.frames = some F.stk from ok.stack q)) ok.hand (by show F.A.depth + 1 + n < _; lia) (by show F.A.units + 1 + 3 + 8 * n < _; lia) (s := { s₁ with toks := s₁.toks + 1 }) R₁ (.cons d₁ .nil) h ?_ fun v s' q => hR v s' q.1 q.2
   intro r st' more c s' hk R' x' d'
   cases c with
   | v u' =>
    cases r with
    | v y => exact ⟨Den.handed d', (T.later (more := m1) x₁).of (r := .v y) hk R' ((nx_toks s₁ _).trans x') d'⟩
    | _ => exact d'.elim
   | _ => exact trivial
  ·refine attr_sound cok ok R₁ d₁ h fun y u' t hk d' => ?_
   exact T.of (r := .v y) (c := .v u') hk R₁ (x₁.trans (nx_toks s₁ t)) d'
theorem star_more {e : Expr} {rest : List Expr} {env : Env} (h : noStar (e :: rest) = true) : starEach (e :: rest) env = (false, eval e env) :: starEach rest env ∧ noStar rest = true := by
 cases e <;> first | exact ⟨rfl, h⟩ | cases h
theorem star_any {env : Env} {pos : Pos} : ∀ {es : List Expr}, noStar es = true → (backTo pos (starEach es env)).any (·.1) = false ∧ (backTo pos (starEach es env)).all (fun x => !x.1) = true
 | [], _ => ⟨rfl, rfl⟩
 | e :: rest, h => by
  obtain ⟨a, b⟩ := star_more (env := env) h
  obtain ⟨c, d⟩ := star_any (env := env) (pos := pos) b
  rw [a]
  constructor
  ·show (false || (backTo pos (starEach rest env)).any (·.1)) = false
   rw [c]; rfl
  ·show (!false && (backTo pos (starEach rest env)).all (fun x => !x.1)) = true
   rw [d]; rfl
theorem evalArgs_ns {f : Value} {es : List Expr} {pos : Pos} {A : Around} {M : Model} {env : Env} {Q : Args → Shared → Prop} (hs : noStar es = true) (h : wpAny M A (spliced (backTo pos (starEach es env))) (fun vs s' => Q ⟨vs, []⟩ s') E s) :
  wpAny M A (evalArgs f true (backTo pos (starEach es env)) []) Q E s := by
 cases es with
 | nil =>
  exact h
 | cons e rest =>
  obtain ⟨a, b⟩ := star_more (env := env) hs
  rw [a] at h ⊢
  exact evalArgs_plain h
theorem sound_args {es : List Expr} {p : Pos} (ih : Sound w C n) (ok : FmOk C F) (hd : F.A.depth + (n + 1) < recursionLimit) (hu : F.A.units + 8 * (n + 1) < cLine) (h : ev C (n + 1) F.sc.names (.args es p) st k) (R : Rep w F ads st s.heap) (T : Then w F ads s k Q) : Goal w F (.args es p) Q E s := by
 cases es with
 | nil => exact spliced_none (T.same (r := .vs []) (c := .vs []) h R (Nx.refl s) .nil)
 | cons e rest =>
  obtain ⟨hns, h⟩ := onFa_some h
  refine spliced_more (ihV ih ok hd hu h R ?_) (by cases e <;> first | rfl | cases hns)
  intro xv st₁ m1 u s₁ h R₁ x₁ d₁
  refine ihVs ih ok hd hu h R₁ ?_
  intro b st₂ m2 us s₂ h R₂ x₂ d₂
  exact (T.later (more := m1) x₁).of (r := .vs _) (c := .vs _) h R₂ x₂ (.cons (Den.mono d₁) d₂)
theorem callWith_any {K : Frag} {f : Value} {first : List Value} {args : List Expr} {p : Pos} {A : Around} {M : Model} {env : Env} {Q : Value → Shared → Prop} (hs : noStar args = true)
  (h : wpAny M A (spliced (backTo p (starEach args env))) (fun vs s' => (K.In s'.heap ∧ keepIn K f = true) ∧ wpAny M A (call f (first ++ vs)) Q E s') E s) :
  wpAny M A (callWith p f first (backTo p (starEach args env)) []) Q E s :=
 callWith_of (P := fun h => K.In h ∧ keepIn K f = true) (by rw [(star_any (env := env) (pos := p) hs).1]; rfl) (fun h q => keeps_K q.2 h q.1)
  (evalArgs_ns (Q := fun a s₁ => (K.In s₁.heap ∧ keepIn K f = true) ∧ wpAny M A (call f (first ++ a.pos) a.kw) Q E s₁) hs h)
theorem keeps_plain {M : Model} {f : Value} (hf : ∀ a, f ≠ .ref a) (h : Heap) : ∃ k, (k = Keeper.frame ∨ k = Keeper.machine ∨ k = Keeper.boundFrame) ∧ Looks M h (keeperOf f) k :=
 ⟨.machine, .inr (.inl rfl), Looks.of_pure (by cases f <;> first | rfl | exact absurd rfl (hf _))⟩
theorem callWith_plain {f : Value} {first : List Value} {args : List Expr} {p : Pos} {A : Around} {M : Model} {env : Env} {Q : Value → Shared → Prop} (hf : ∀ a, f ≠ .ref a) (hs : noStar args = true)
  (h : wpAny M A (spliced (backTo p (starEach args env))) (fun vs s' => wpAny M A (call f (first ++ vs)) Q E s') E s) :
  wpAny M A (callWith p f first (backTo p (starEach args env)) []) Q E s :=
 callWith_of (P := fun _ => True) (by rw [(star_any (env := env) (pos := p) hs).1]; rfl) (fun h _ => keeps_plain hf h)
  (evalArgs_ns (Q := fun a s₁ => True ∧ wpAny M A (call f (first ++ a.pos) a.kw) Q E s₁) hs (wpAny_mono h (fun _ _ x => ⟨trivial, x⟩) fun _ _ x => x))
theorem rep_K (ok : FmOk C F) (R : Rep w F ads st s.heap) : C.K.In s.heap := let ⟨_, _, _, X⟩ := R; ok.X.keeps X.fr.keep
theorem bm_sound {x : SV} {a : Str} {k : String → Prop} {v : Value} {Q : Value × List Value → Shared → Prop} {pl : Sem Bool} (cok : CfOk w C) (ok : FmOk C F) (R : Rep w F ads st s.heap) (d : Den F.B ads x v) (h : bmT st x a k)
  (hQ : ∀ mid, k mid → Q (.builtin mid, [v]) s) : wpAny (model prog w) F.A (getMethod v a pl) Q E s := by
 cases x <;> first | exact False.elim h | skip
 ·obtain ⟨⟨t, rfl⟩, _⟩ := d
  conv at h => whnf
  split at h
  ·rename_i q; rw [sEq_true q]; exact GM.join (hQ _ h)
  ·split at h
   ·rename_i q; rw [sEq_true q]; exact GM.strip (hQ _ h)
   ·split at h
    ·rename_i q; rw [sEq_true q]; exact GM.split (hQ _ h)
    ·split at h
     ·rename_i q; rw [sEq_true q]; exact GM.startswith (hQ _ h)
     ·split at h
      ·rename_i q; rw [sEq_true q]; exact GM.endswith (hQ _ h)
      ·exact h.elim
 ·rename_i i
  obtain ⟨xs, hi, h⟩ := onLst_some h
  obtain ⟨l, vs, n, rfl, ho, D, upd⟩ := rep_list R hi d
  have hl : s.heap.IsList l vs.toArray := ⟨_, ho, rfl, n, rfl⟩
  split at h
  ·rename_i q; rw [sEq_true q]
   exact PyProof.Rows.getMethod_list_of PySem.F.slot_list_append PySem.F.type_list_append hl ⟨_, ho, rfl⟩ (hQ _ h)
  ·split at h
   ·rename_i q; rw [sEq_true q]
    exact PyProof.Rows.getMethod_list_of PySem.F.slot_list_pop PySem.F.type_list_pop hl ⟨_, ho, rfl⟩ (hQ _ h)
   ·exact h.elim
theorem rdL_strs {B : Heap} {fz : List (Addr × Obj)} : ∀ {vs : List Value} {ts : List Str}, RdL B fz vs (ts.map .str) → ∃ l : List (Str × Tok), vs = strValues l ∧ l.map (·.1) = ts
 | vs, [], h => by cases h; exact ⟨[], rfl, rfl⟩
 | vs, t :: ts, h => by
  cases h with
  | cons a r =>
   cases a with
   | str _ u =>
    obtain ⟨l, e1, e2⟩ := rdL_strs r
    exact ⟨(t, u) :: l, by rw [e1]; rfl, by rw [List.map_cons, e2]⟩
theorem strs_rd {B : Heap} {fz : List (Addr × Obj)} : ∀ (l : List (Str × Tok)), RdL B fz (strValues l) ((l.map (·.1)).map .str)
 | [] => .nil
 | (t, u) :: l => .cons (.str t u) (strs_rd l)
theorem bc_sound {mid : String} {x : SV} {u : Value} {svs : List SV} {vs : List Value} {k : SV → St → Prop} {Q : Value → Shared → Prop} (cok : CfOk w C) (ok : FmOk C F) (hu : F.A.units + 8 * (n + 1) < cLine) (R : Rep w F ads st s.heap) (d : Den F.B ads x u) (D : DenL F.B ads svs vs)
  (h : bcT mid st x svs k) (T : ThenV w F ads s k Q) : wpAny (model prog w) F.A (call (.builtin mid) ([u] ++ vs)) Q E s := by
 rcases onStr_some h with ⟨e, g⟩ | h0 <;> clear h
 ·subst e
  obtain ⟨sep, rfl, g1⟩ := onS_some g
  obtain ⟨v, rfl, g2⟩ := on1_some g1
  obtain ⟨_, rfl, dv⟩ := D.one
  obtain ⟨⟨t, rfl⟩, l⟩ := d
  obtain ⟨a, us, ds, rfl, hl, f, r, hle, ts, rfl, h1, h2, h3⟩ := listDat_sound ok R dv g2
  obtain ⟨l', e1, e2⟩ := rdL_strs r
  subst e1
  exact SC.join hl e2 h1 fun t' kk => T.same h3 R (nx_toks s kk) ⟨⟨_, rfl⟩, h2⟩
 rcases onStr_some h0 with ⟨e, g⟩ | h <;> clear h0
 ·subst e
  obtain ⟨y, rfl, g1⟩ := onS_some g
  obtain ⟨rfl, g2⟩ := on0_some g1
  cases D
  obtain ⟨⟨t, rfl⟩, l⟩ := d
  exact SCL.strip (fun t' kk hl => T.same g2 R (nx_toks s kk) ⟨⟨_, rfl⟩, Nat.le_trans hl l⟩) l
 rcases onStr_some h with ⟨e, g⟩ | h0 <;> clear h
 ·subst e
  obtain ⟨x, rfl, g1⟩ := onS_some g
  obtain ⟨_, _, rfl, g2⟩ := on2_some g1
  obtain ⟨y, rfl, g3⟩ := onS_some g2
  obtain ⟨m, rfl, g4⟩ := onI_some g3
  obtain ⟨_, _, rfl, d1, d2⟩ := D.two
  obtain ⟨⟨t, rfl⟩, l⟩ := d
  obtain ⟨⟨t1, rfl⟩, l1⟩ := d1
  obtain ⟨t2, rfl⟩ := d2
  obtain ⟨h1, h2, h3, h4, h5⟩ := g4
  obtain ⟨mm, news, lw, X⟩ := R
  refine PyProof.Rows.splitN2A X.fr X.nw h1 h2 (fun lst h' tk e1 e2 e3 e4 F' N' => ?_) h3
  refine T _ st ⟨[], [(s.heap.objs.size, listO (strValues lst) 0)]⟩ _ _ h5 (rep_fzN X F' N' (Nat.le_refl _)) (Nx.of_gens rfl rfl rfl) ?_
  rw [← e1]
  refine den_newL (by rw [List.length_map, e1]; exact h4) (fun d hd => ?_) (strs_rd lst)
  obtain ⟨a, ha, rfl⟩ := List.mem_map.mp hd
  exact .str (Nat.le_trans (e3 a ha) l)
 rcases onStr_some h0 with ⟨e, g⟩ | h <;> clear h0
 ·subst e
  obtain ⟨x, rfl, g1⟩ := onS_some g
  obtain ⟨_, rfl, g2⟩ := on1_some g1
  obtain ⟨y, rfl, g3⟩ := onS_some g2
  obtain ⟨_, rfl, d1⟩ := D.one
  obtain ⟨⟨t, rfl⟩, l⟩ := d
  obtain ⟨⟨t1, rfl⟩, l1⟩ := d1
  exact SC.startswith (T.same g3 R (Nx.refl s) rfl)
 rcases onStr_some h with ⟨e, g⟩ | h0 <;> clear h
 ·subst e
  obtain ⟨x, rfl, g1⟩ := onS_some g
  obtain ⟨_, rfl, g2⟩ := on1_some g1
  obtain ⟨y, rfl, g3⟩ := onS_some g2
  obtain ⟨_, rfl, d1⟩ := D.one
  obtain ⟨⟨t, rfl⟩, l⟩ := d
  obtain ⟨⟨t1, rfl⟩, l1⟩ := d1
  exact SC.endswith (T.same g3 R (Nx.refl s) rfl)
 rcases onStr_some h0 with ⟨e, g⟩ | h <;> clear h0
 ·subst e
  obtain ⟨i, rfl, g1⟩ := onOb_some g
  obtain ⟨y, rfl, g2⟩ := on1_some g1
  obtain ⟨_, rfl, d1⟩ := D.one
  obtain ⟨ys, hi, g2⟩ := onLst_some g2
  exact append_sound R d hi d1 g2.1 fun h' R' => T.same g2.2 R' (Nx.of_gens rfl rfl rfl) rfl
 rcases onStr_some h with ⟨e, g⟩ | h0 <;> clear h
 ·subst e
  obtain ⟨i, rfl, g1⟩ := onOb_some g
  obtain ⟨rfl, g2⟩ := on0_some g1
  cases D
  obtain ⟨xs, y, hi, hl, h⟩ := g2
  exact pop_sound R d hi hl fun h' v R' dv => T.same h R' (Nx.of_gens rfl rfl rfl) dv
 exact h0.elim
theorem led_len (R : Rep w F ads st s.heap) : st.led.length = ads.ads.length := let ⟨_, _, _, X⟩ := R; X.led.length
theorem at_end (ads : Wd) (a d : Addr) : (ads ++ Wd.one a d).ads[ads.ads.length]? = some (a, d) := by rw [Wd.ads_append]; simp [Wd.one]
theorem bf_sound {f : Value} {svs : List SV} {vs : List Value} {k : SV → St → Prop} {Q : Value → Shared → Prop} (cok : CfOk w C) (ok : FmOk C F) (hu : F.A.units + 8 * (n + 1) < cLine) (R : Rep w F ads st s.heap) (D : DenL F.B ads svs vs)
  (h : bfT f svs st k) (T : ThenV w F ads s k Q) : wpAny (model prog w) F.A (call f ([] ++ vs)) Q E s := by
 rw [List.nil_append]
 cases f <;> first | exact False.elim h | skip
 rotate_left
 ·rcases onStr_some h with ⟨e, g⟩ | h0 <;> clear h
  ·subst e
   obtain ⟨x, rfl, g1⟩ := on1_some g
   obtain ⟨_, rfl, d⟩ := D.one
   split at g1
   ·rename_i q
    obtain rfl := strOnly_eq q
    obtain ⟨⟨t, rfl⟩, l⟩ := d
    exact SBL.len (by rw [sizeLine_eq] at l; lia) (T.same g1 R (nx_toks s _) ⟨_, rfl⟩)
   ·obtain ⟨⟨b, xs⟩, hx, g1⟩ := onOpt_some g1
    exact len_sound ok R d hx g1.1 fun t t' => T.same g1.2 R (nx_toks s _) ⟨_, rfl⟩
  rcases onStr_some h0 with ⟨e, g⟩ | h <;> clear h0
  ·subst e
   obtain ⟨x, y, rfl, g1⟩ := on2_some g
   obtain ⟨_, _, rfl, d, d'⟩ := D.two
   cases y <;> first | exact False.elim g1 | skip
   rename_i v
   cases v <;> first | exact False.elim g1 | skip
   obtain ⟨rfl, _⟩ := d'
   cases x <;> first | exact False.elim g1 | skip
   ·obtain ⟨⟨t, rfl⟩, l⟩ := d
    obtain ⟨rfl, g2⟩ := g1
    exact IsiPair.str_str (T.same g2 R (Nx.refl s) rfl)
   ·rename_i dd
    cases dd <;> first | exact False.elim g1 | skip
    obtain ⟨⟨a, rfl⟩, f, rd⟩ := d
    obtain ⟨rfl, g2⟩ := g1
    cases rd with
    | list g c q r => exact IsiPair.list_str (g.look (rep_look ok R)) c (T.same g2 R (nx_toks s _) rfl)
  ·exact h.elim
 ·rcases onStr_some h with ⟨e, g⟩ | h0 <;> clear h
  ·subst e
   obtain ⟨x, rfl, g1⟩ := on1_some g
   obtain ⟨_, rfl, d⟩ := D.one
   cases x <;> first | exact False.elim g1 | skip
   ·obtain ⟨t, rfl⟩ := d
    exact call_type_of (typeIs_int s _ _) (by decide +kernel) (T.same g1 R (Nx.refl s) ⟨rfl, rfl⟩)
   ·obtain ⟨⟨t, rfl⟩, _⟩ := d
    exact call_type_of (typeIs_str s _ _) (by decide +kernel) (T.same g1 R (Nx.refl s) ⟨rfl, rfl⟩)
  rcases onStr_some h0 with ⟨e, g⟩ | h <;> clear h0
  ·subst e
   obtain ⟨x, rfl, g1⟩ := on1_some g
   obtain ⟨i, rfl, g2⟩ := onI_some g1
   obtain ⟨_, rfl, d⟩ := D.one
   obtain ⟨t, rfl⟩ := d
   exact call_int_int (T.same g2 R (Nx.refl s) ⟨_, rfl⟩)
  rcases onStr_some h with ⟨e, g⟩ | h0 <;> clear h
  ·subst e
   obtain ⟨x, rfl, g1⟩ := on1_some g
   obtain ⟨i, rfl, g2⟩ := onI_some g1
   obtain ⟨_, rfl, d⟩ := D.one
   obtain ⟨t, rfl⟩ := d
   obtain ⟨h1, h2, h3⟩ := g2
   exact PyProof.Rows.str_of_int_fit (N := 4611686018427387904) (by split <;> lia) (Int.le_refl _) fun _ => T.same h3 R (nx_toks s _) ⟨⟨_, rfl⟩, h2⟩
  rcases onStr_some h0 with ⟨e, g⟩ | h <;> clear h0
  ·subst e
   obtain ⟨x, rfl, g1⟩ := on1_some g
   obtain ⟨i, rfl, g2⟩ := onI_some g1
   obtain ⟨_, rfl, d⟩ := D.one
   obtain ⟨t, rfl⟩ := d
   obtain ⟨h1, h2, h3⟩ := g2
   obtain ⟨j, rfl⟩ := Int.eq_ofNat_of_zero_le h1
   refine call_range_1 ?_
   refine T (.obj st.led.length) _ (.one s.heap.objs.size 0) _ _ h3 (rep_push rfl R (.rng h2)) (Nx.of_gens rfl rfl rfl) ⟨(s.heap.objs.size, 0), ?_, rfl⟩
   rw [led_len R]; exact at_end _ _ _
  rcases onStr_some h with ⟨e, g⟩ | h0 <;> clear h
  ·subst e
   obtain ⟨rfl, g1⟩ := on0_some g
   cases D
   refine call_deque fun h' e1 e2 => ?_
   have R' : Rep w F (ads ++ .one s.heap.objs.size 0) { st with led := st.led ++ [.raw (dequeO .none (rawInt 0))] } h' := by
    refine rep_same (rep_push (o := dequeO .none (rawInt 0)) rfl R .raw) fun b o q => ?_
    by_cases z : b = s.heap.objs.size
    ·subst z
     rw [Heap.get?_push_size _ rfl] at q; cases q
     exact e1
    ·rw [e2.2 b z]; exact q
   refine T (.obj st.led.length) _ (.one s.heap.objs.size 0) _ _ g1 R' (Nx.of_gens rfl rfl rfl) ⟨(s.heap.objs.size, 0), ?_, rfl⟩
   rw [led_len R]; exact at_end _ _ _
  ·exact h0.elim
theorem mcall_pos {o : Expr} {apos p : Pos} {env : Env} (h : (apos.endLine == p.line) = true) : methodCallPos true o env apos p = pure p := if_pos h
theorem mcOk_star {o : Expr} {args : List Expr} {apos p : Pos} (h : mcOk o args apos p = true) : noStar args = true := by
 simp only [mcOk, Bool.and_eq_true] at h
 exact h.1.1.2
theorem mcall_eq {o : Expr} {m : Str} {args : List Expr} {apos p : Pos} {env : Env} (hmc : mcOk o args apos p = true) : eval (.Call (.Attribute o m apos) args [] p) env = (do
  let ov ← eval o env
  standAt apos.atName
  let (f, first) ← holding [ov] (getMethod ov m (do return (← importBound o env).getD true))
  callWith p f first (backTo p (starEach args env)) []) := by
 simp only [mcOk, Bool.and_eq_true] at hmc
 obtain ⟨⟨⟨b1, b2⟩, b3⟩, b4⟩ := hmc
 have few : methodCallForm (args.length + ([] : List Keyword).length) (backTo p (starEach args env)) (backToKw p (keywordEach [] env)) = true := by
  unfold methodCallForm
  have l := Nat.le_of_ble_eq_true b3
  have z : (backTo p (starEach args env)).all (!·.1) = true := (star_any (env := env) (pos := p) b2).2
  rw [z]
  exact decide_eq_true (show args.length + 0 + 0 < 30 by lia)
 show (do
  let ov ← attributeBase o m env (eval o env)
  standAt apos.atName
  methodCall o m apos p env ov (args.length + ([] : List Keyword).length) (backTo p (starEach args env)) (backToKw p (keywordEach [] env))) = _
 rw [base_eq b1]
 unfold methodCall
 rw [few, mcall_pos b4]
 rfl
theorem sound_call {f : Expr} {args : List Expr} {kws : List Keyword} {p : Pos} (ih : Sound w C n) (cok : CfOk w C) (ok : FmOk C F) (hd : F.A.depth + (n + 1) < recursionLimit) (hu : F.A.units + 8 * (n + 1) < cLine) (h : ev C (n + 1) F.sc.names (.ex (.Call f args kws p)) st k) (R : Rep w F ads st s.heap) (T : Then w F ads s k Q) : Goal w F (.ex (.Call f args kws p)) Q E s := by
 refine hx_sound cok ok hd hu h R T ?_
 clear h
 intro h
 cases kws <;> first | exact False.elim h | skip
 ·cases f <;> first | exact False.elim h | skip
  ·rename_i o m apos
   conv at h => whnf
   split at h
   ·exact h.elim
   rename_i hmc
   have hns := mcOk_star hmc
   refine MethodCall_ (ihV ih ok hd hu h R ?_) (mcall_eq hmc)
   intro xv st₁ m1 u s₁ h R₁ x₁ d₁
   split at h
   ·refine meth_sound cok ok R₁ d₁ h fun fa h hfn => ?_
    refine callWith_any (K := C.K) hns (ihVs ih ok hd hu h R₁ ?_)
    intro b st₂ m2 us s₂ h R₂ x₂ d₂
    exact ⟨⟨rep_K ok R₂, callT_keep cok h⟩, callT_sound ih cok ok hd hu R₂ (.cons (Den.mono d₁) d₂) h ((T.later (more := m1) x₁).later (more := m2) x₂)⟩
   ·refine bm_sound cok ok R₁ d₁ h fun mid h => ?_
    refine callWith_plain (fun a e => nomatch e) hns (ihVs ih ok hd hu h R₁ ?_)
    intro b st₂ m2 us s₂ h R₂ x₂ d₂
    exact bc_sound cok ok hu R₂ (Den.mono d₁) d₂ h ((T.later (more := m1) x₁).later (more := m2) x₂).v
  ·rename_i x xp
   conv at h => whnf
   split at h
   ·exact h.elim
   rename_i hns
   refine Call_ (ihV ih ok hd hu h R ?_)
   intro fv st₁ m1 u s₁ h R₁ x₁ d₁
   cases fv <;> first | exact h.elim | skip
   obtain ⟨rfl, _⟩ := d₁
   cases hf : refOf u with
   | some fa =>
    obtain rfl := refOf_some hf
    refine callWith_any (K := C.K) hns (ihVs ih ok hd hu h R₁ ?_)
    intro b st₂ m2 us s₂ h R₂ x₂ d₂
    exact ⟨⟨rep_K ok R₂, callT_keep cok h⟩, callT_sound ih cok ok hd hu R₂ d₂ h ((T.later (more := m1) x₁).later (more := m2) x₂)⟩
   | none =>
    refine callWith_plain (refOf_none hf) hns (ihVs ih ok hd hu h R₁ ?_)
    intro b st₂ m2 us s₂ h R₂ x₂ d₂
    rw [hf] at h
    exact bf_sound cok ok hu R₂ d₂ h ((T.later (more := m1) x₁).later (more := m2) x₂).v
theorem tr_plain {e : Expr} (ih : Sound w C n) (ok : FmOk C F) (hd : F.A.depth + (n + 1) < recursionLimit) (hu : F.A.units + 8 * (n + 1) < cLine)
  (h : ev C n F.sc.names (.ex e) st (onV fun x st₁ => truthT st₁ x fun c => k (.b c) st₁)) (R : Rep w F ads st s.heap) (T : Then w F ads s k Q)
  (he : PySem.isTrue e F.env (eval e F.env) = (do let v ← eval e F.env; standAt e.pos; holding [v] (truthy v))) : Goal w F (.tr e) Q E s := by
 refine isTrue_plain (ihV ih ok hd hu h R ?_) he
 intro a st₁ m1 u s₁ h R₁ x₁ d₁
 exact truth_sound R₁ d₁ h fun c t hc => T.of (r := .b c) (c := .b c) hc R₁ (x₁.trans (nx_toks s₁ t)) rfl
theorem sound_tr {e : Expr} (ih : Sound w C n) (ok : FmOk C F) (hd : F.A.depth + (n + 1) < recursionLimit) (hu : F.A.units + 8 * (n + 1) < cLine) (h : ev C (n + 1) F.sc.names (.tr e) st k) (R : Rep w F ads st s.heap) (T : Then w F ads s k Q) : Goal w F (.tr e) Q E s := by
 cases e with
 | BoolOp op vs p =>
  conv at h => whnf
  split at h
  ·split at h
   ·exact isTrue_and_nil (T.same (r := .b true) (c := .b true) h R (Nx.refl s) rfl)
   ·exact isTrue_or_nil (T.same (r := .b false) (c := .b false) h R (Nx.refl s) rfl)
  ·rename_i e₁ rest
   split at h
   ·refine isTrue_and (ihB ih ok hd hu h R ?_)
    intro a st₁ m1 c' s₁ h R₁ x₁ d₁
    cases d₁
    have z := ifT_sound h
    try dsimp only
    split
    ·rename_i hct
     exact ih F E (.tr (.BoolOp .And rest p)) st₁ k (ads ++ m1) s₁ Q ok (ltD hd) (ltU hu) (z.1 hct) R₁ (T.later x₁)
    ·rename_i hct
     exact T.of (r := .b false) (c := .b false) (z.2 (by simpa using hct)) R₁ x₁ rfl
   ·refine isTrue_or (ihB ih ok hd hu h R ?_)
    intro a st₁ m1 c' s₁ h R₁ x₁ d₁
    cases d₁
    have z := ifT_sound h
    try dsimp only
    split
    ·rename_i hct
     exact T.of (r := .b true) (c := .b true) (z.1 hct) R₁ x₁ rfl
    ·rename_i hct
     exact ih F E (.tr (.BoolOp .Or rest p)) st₁ k (ads ++ m1) s₁ Q ok (ltD hd) (ltU hu) (z.2 (by simpa using hct)) R₁ (T.later x₁)
 | UnaryOp op x p =>
  cases op <;> first | exact False.elim h | skip
  refine isTrue_not (ihB ih ok hd hu h R ?_)
  intro a st₁ m1 c' s₁ h R₁ x₁ d₁
  cases d₁; exact T.of (r := .b _) (c := .b _) h R₁ x₁ rfl
 | Compare l ops rs p =>
  obtain ⟨op, rfl, h⟩ := onE1_some h
  obtain ⟨r, rfl, h⟩ := onE1_some h
  obtain ⟨hb, h⟩ := onFa_some h
  refine wpAny_isTrue_Compare1 (ihV ih ok hd hu h R ?_) hb
  intro xv st₁ m1 a s₁ h R₁ x₁ d₁
  refine ihV ih ok hd hu h R₁ ?_
  intro yv st₂ m2 b s₂ h R₂ x₂ d₂
  exact cmpA_sound ok hu R₂ (Den.mono d₁) d₂ h fun z t hk => wpAny_truthy_bool ((T.later (more := m1) x₁).of (r := .b z) (c := .b z) hk R₂ (x₂.trans (nx_toks s₂ t)) rfl)
 | Name =>
  exact tr_plain ih ok hd hu h R T rfl
 | Attribute =>
  exact tr_plain ih ok hd hu h R T rfl
 | Call =>
  exact tr_plain ih ok hd hu h R T rfl
 | Constant =>
  exact tr_plain ih ok hd hu h R T rfl
 | _ => exact False.elim h
set_option backward.match.sparseCases true
theorem sound_sts {l : List Stmt} (ih : Sound w C n) (ok : FmOk C F) (hd : F.A.depth + (n + 1) < recursionLimit) (hu : F.A.units + 8 * (n + 1) < cLine) (h : ev C (n + 1) F.sc.names (.sts l) st k) (R : Rep w F ads st s.heap) (T : Then w F ads s k Q) : Goal w F (.sts l) Q E s := by
 conv at h => whnf
 split at h
 ·exact wpAny_execs_nil (T.same (r := .next) (c := .fl .next) h R (Nx.refl s) trivial)
 ·rename_i x rest
  refine wpAny_execs_cons (ih F E (.st x) st _ ads s (fun c s' => match c with
   | .fl f => match f with
    | .next => wpAny (model prog w) F.A (execs rest F.env) (fun f s' => Q (.fl f) s') E s'
    | f => Q (.fl f) s'
   | _ => False) ok (ltD hd) (ltU hu) h R ?_)
  intro r st₁ m1 c s₁ h R₁ x₁ d₁
  cases r <;> (try exact h.elim) <;> cases c <;> try exact d₁.elim
  all_goals rename_i f
  ·cases f <;> try exact d₁.elim
   exact ih F E (.sts rest) st₁ k (ads ++ m1) s₁ Q ok (ltD hd) (ltU hu) h R₁ (T.later x₁)
  ·cases f <;> try exact d₁.elim
   exact T.of (r := .brk) h R₁ x₁ d₁
  ·cases f <;> try exact d₁.elim
   exact T.of (r := .cont) h R₁ x₁ d₁
  ·cases f <;> try exact d₁.elim
   exact T.of (r := .ret _) h R₁ x₁ d₁
set_option backward.match.sparseCases false
theorem swaps_plain {v : Expr} {t : Option Expr} {l : Nat} {env : Env} (h : plainAssign v = true) : swapsWith v t l env = pure false := by
 cases v <;> first | rfl | cases h
theorem folded_plain {e : Expr} {env : Env} (h : plainIter e = true) (x : Value) : foldedSetIterable e env x = pure x := by
 cases e <;> first | rfl | cases h
theorem compT_sound {elt : Expr} {gens : List Comprehension} {sc : Scope} {p : Pos} {use : Option (Value → Sem Unit)} {k : SV → St → Prop} {Q : Value → Shared → Prop} (ih : Sound w C n) (ok : FmOk C F) (hd : F.A.depth + (n + 1) < recursionLimit) (hu : F.A.units + 8 * (n + 1) < cLine)
  (h : compT (ev C n) F.sc.names elt gens sc st k) (R : Rep w F ads st s.heap)
  (hfin : ∀ (m1 z : Wd) (st' : St) (d : PyData) (a Cc : Addr) (s' : Shared), k (.dat d) st' → Nx F s s' → (∃ m, s'.heap.Ns Cc m) → F.L ≠ Cc → Rep w F (ads ++ m1 ++ z) st' (hideAll s'.heap [Cc]) → Den F.B (ads ++ m1 ++ z) (.dat d) (.ref a) →
   compPost (model prog w) F.A E use Q (.ref a) Cc (.ok .next) s') :
  wpAny (model prog w) F.A (comprehension (.ListComp elt gens sc p) sc F.env (firstIterPos gens p) (newList []) (firstAsync gens) (firstIter gens F.env) use) Q E s := by
 obtain ⟨g, rfl, h⟩ := onE1_some h
 obtain ⟨ha, h⟩ := onTr_some h
 obtain ⟨hsc, h⟩ := onTr_some h
 obtain ⟨hpi, h⟩ := onTr_some h
 obtain ⟨tgt, iter, ifs, asy⟩ := g
 obtain rfl : asy = 0 := isZ_eq ha
 show wpAny (model prog w) F.A (comprehension (.ListComp elt [⟨tgt, iter, ifs, 0⟩] sc p) sc F.env iter.pos (newList []) false (eval iter F.env) use) Q E s
 have elok : ∀ F' : Fm, FmOk C F' → F'.A = F.A → F'.sc.names = relab sc.names → EvOk w F' elt (fun st k => ev C n (relab sc.names) (.ex elt) st k) := fun F' ok' eA eN E' st' k' ads' s' Q' hev R' T' =>
  ih F' E' (.ex elt) st' k' ads' s' Q' ok' (by rw [eA]; lia) (by rw [eA]; lia) (by rw [eN]; exact hev) R' T'
 refine comp_sound (ksrc := compS (ev C n) elt tgt ifs sc k) ok hsc (folded_plain hpi) (fun Q' T' => ih F E (.ex iter) st _ ads s Q' ok (ltD hd) (ltU hu) h R T') (fun v st₁ hv => ?_) hfin
 ·unfold compS at hv
  obtain ⟨all, slot, hs, hv⟩ := onSrc_some hv
  rcases ifs01_some hv with ⟨rfl, hv⟩ | ⟨c, rfl, hv⟩
  ·exact ⟨all, slot, _, none, hs, hv, fun F' ok' eA eN => ⟨elok F' ok' eA eN, .none⟩⟩
  ·refine ⟨all, slot, _, some _, hs, hv, fun F' ok' eA eN => ⟨elok F' ok' eA eN, .one fun E' st' k' ads' s' Q' hev R' T' => ?_⟩⟩
   exact ih F' E' (.tr c) st' k' ads' s' Q' ok' (by rw [eA]; lia) (by rw [eA]; lia) (by rw [eN]; exact hev) R' T'
theorem swaps_comp {a : Expr} {b : List Comprehension} {c : Scope} {p xp : Pos} {x : Str} {l : Nat} {env : Env} : swapsWith (.ListComp a b c p) (some (.Name x xp)) l env = pure (env.blockKind == .function && env.kindOf x == some .local && xp.line == p.line && !(c.names.any fun (n, k) => n == x && (k == .local || k == .cell))) := rfl
theorem assign_comp {a : Expr} {b : List Comprehension} {c : Scope} {p xp pos : Pos} {x : Str} {k : SV → St → Prop} {Q : CR → Shared → Prop} (ih : Sound w C n) (ok : FmOk C F) (hd : F.A.depth + (n + 1) < recursionLimit) (hu : F.A.units + 8 * (n + 1) < cLine)
  (hk : F.sc.names.lookup x = some .local ∨ F.sc.names.lookup x = some .cell) (h : compT (ev C n) F.sc.names a b c st fun y st₁ => stT F.sc.names x y st₁ fun st₂ => k .none st₂) (R : Rep w F ads st s.heap)
  (hQ : ∀ st' more s', k .none st' → Rep w F (ads ++ more) st' s'.heap → Nx F s s' → Q (.fl .next) s') : wpAny (model prog w) F.A (exec (.Assign [.Name x xp] (.ListComp a b c p) pos) F.env) (fun f s' => Q (.fl f) s') E s := by
 cases hb : (F.env.blockKind == .function && F.env.kindOf x == some .local && xp.line == p.line && !(c.names.any fun (n, k) => n == x && (k == .local || k == .cell))) with
 | false =>
  refine wpAny_Assign_Name ?_ (by rw [swaps_comp, hb])
  rw [eval_ListComp]
  refine compT_sound (use := none) ih ok hd hu h R fun m1 z st' d y Cc s' hk' x' hC hne R' dx => ?_
  obtain ⟨mC, hmC⟩ := hC
  refine ⟨mC, hmC, fun h' hs' => ?_⟩
  refine store_sound (s := { s' with heap := h' }) ok (rep_unhide R' hs') dx hk' fun st'' s'' hk'' R'' x'' => ?_
  exact hQ st'' (m1 ++ z) s'' hk'' (by rw [← Wd.append_assoc]; exact R'') ((x'.trans (Nx.of_gens rfl rfl rfl : Nx F s' { s' with heap := h' })).trans x'')
 | true =>
  have hl : F.sc.names.lookup x = some .local := by
   simp only [Bool.and_eq_true] at hb
   have := hb.1.1.2
   have h2 : F.env.kindOf x = some .local := by simpa using this
   exact h2
  rw [exec_Assign_Name_used _ _ _ _ (by rw [swaps_comp, hb])]
  refine wpAny_bind (wpAny_standAt (wpAny_bind ?_))
  show wpAny _ F.A (do let _ ← comprehension (.ListComp a b c p) c F.env (firstIterPos b p) (newList []) (firstAsync b) (firstIter b F.env) (some (assign (.Name x xp) F.env))) _ _ s
  refine wpAny_bind (wpAny_mono (compT_sound (use := some (assign (.Name x xp) F.env)) (Q := fun _ s' => Q (.fl .next) s') ih ok hd hu h R fun m1 z st' d y Cc s' hk' x' hC hne R' dx => ?_) (fun _ s' hq => wpAny_pure (wpAny_pure hq)) fun _ _ e => e)
  show wpAny _ F.A (assign (.Name x xp) F.env (.ref y)) _ _ _
  unfold stT at hk'
  rw [nmKind_eq, hl] at hk'
  refine wpAny_assign_Name (rep_store_use ok R' hC hne dx hl fun h₁ t hC₁ fin => ?_)
  obtain ⟨mC, hmC⟩ := hC₁
  refine ⟨mC, hmC, fun h'' hs'' => ?_⟩
  exact hQ _ (m1 ++ z) { s' with heap := h'', toks := t } hk' (by rw [← Wd.append_assoc]; exact fin h'' hs'') (x'.trans (Nx.of_gens rfl rfl rfl))
theorem setIT_sound {o i v : SV} {a b u : Value} {k : St → Prop} {Q : Unit → Shared → Prop} (ok : FmOk C F) (R : Rep w F ads st s.heap) (d1 : Den F.B ads o a) (d2 : Den F.B ads i b) (d3 : Den F.B ads v u) (h : setIT st o i v k)
  (hQ : ∀ st' s', k st' → Rep w F ads st' s'.heap → Nx F s s' → Q () s') : wpAny (model prog w) F.A (setItem a b u) Q E s := by
 obtain ⟨j, rfl, h⟩ := onOb_some h
 rcases onDL_some h with ⟨fs, hj, h⟩ | ⟨xs, hj, h⟩
 ·obtain ⟨x, rfl, h⟩ := onS_some h
  obtain ⟨⟨t, rfl⟩, _⟩ := d2
  exact dic_set R d1 hj d3 h.1 fun h' t' R' => hQ _ _ h.2 R' (Nx.mk' s h' t')
 ·obtain ⟨z, rfl, h⟩ := onI_some h
  obtain ⟨t, rfl⟩ := d2
  exact setL_sound R d1 hj h.1 h.2.1 h.2.2.1 d3 fun h' R' => hQ _ _ h.2.2.2 R' (Nx.of_gens rfl rfl rfl)
theorem swapped_none {es : List Expr} {q : Nat} {p : Pos} {v : Expr} {env : Env} (h : notTuple v = true) : swappedStores [.Tuple es q p] v env = pure none := by
 cases v <;> first | rfl | cases h
theorem swapped_two {x z : Str} {p q : Pos} {v : Expr} {env : Env} : swappedStores [.Name x p, .Name z q] v env = pure none := rfl
theorem sole_plain {es : List Expr} {q : Nat} {p : Pos} {v : Expr} {l : Nat} {env : Env} (h : plainAssign v = true) : swapsWithSole [.Tuple es q p] v l env = pure false := by
 cases v <;> first | rfl | cases h
theorem sound_st {x : Stmt} (ih : Sound w C n) (cok : CfOk w C) (ok : FmOk C F) (hd : F.A.depth + (n + 1) < recursionLimit) (hu : F.A.units + 8 * (n + 1) < cLine) (h : ev C (n + 1) F.sc.names (.st x) st k) (R : Rep w F ads st s.heap) (T : Then w F ads s k Q) : Goal w F (.st x) Q E s := by
 cases x with
 | Assign tgs v pos =>
  cases tgs with
  | nil => exact False.elim h
  | cons t0 r0 =>
  cases r0 with
  | nil =>
   cases t0 with
   | Name x xp =>
    rcases locCel_some h with ⟨hk, h⟩ | ⟨hk, h⟩
    ·have hk0 := hk
     rw [nmKind_eq] at hk
     split at h
     ·rename_i hp
      refine wpAny_Assign_Name (ihV ih ok hd hu h R ?_) (swaps_plain hp)
      intro a st₁ m1 u s₁ h R₁ x₁ d₁
      exact rep_store ok R₁ d₁ hk fun h' t R' => T.of (r := .next) (c := .fl .next) h R' (x₁.trans (Nx.mk' s₁ h' t)) trivial
     ·cases v <;> first | exact False.elim h | skip
      refine assign_comp ih ok hd hu (.inl hk) (k := fun _ st' => k .next st') ?_ R fun st' more s' hk' R' x' => T .next st' more (.fl .next) s' hk' R' x' trivial
      unfold stT
      rw [hk0]
      exact h
    ·rw [nmKind_eq] at hk
     split at h
     ·rename_i hp
      refine wpAny_Assign_Name (ihV ih ok hd hu h R ?_) (swaps_plain hp)
      intro a st₁ m1 u s₁ h R₁ x₁ d₁
      exact store_sound ok R₁ d₁ h fun st' s' hk' R' x' => T.of (r := .next) (c := .fl .next) hk' R' (x₁.trans x') trivial
     ·cases v <;> first | exact False.elim h | skip
      exact assign_comp ih ok hd hu (.inr hk) (k := fun _ st' => k .next st') h R fun st' more s' hk' R' x' => T .next st' more (.fl .next) s' hk' R' x' trivial
   | Tuple es q p =>
    conv at h => whnf
    split at h
    ·rename_i hp
     split at h
     ·rename_i hnt
      refine PyProof.Rows.Assign_Tuple (ihV ih ok hd hu h R ?_) (sole_plain hp) (swapped_none hnt)
      intro a st₁ m1 u s₁ h R₁ x₁ d₁
      exact bind_sound ok R₁ d₁ h fun st' s' hk' R' x' => T.of (r := .next) (c := .fl .next) hk' R' (x₁.trans x') trivial
     ·exact h.elim
    ·exact h.elim
   | Subscript o i ip =>
    conv at h => whnf
    split at h
    ·rename_i hp
     refine wpAny_Assign_Subscript (ihV ih ok hd hu h R ?_) (swaps_plain hp)
     intro a st₁ m1 u s₁ h R₁ x₁ d₁
     refine ihV ih ok hd hu h R₁ ?_
     intro b st₂ m2 ov s₂ h R₂ x₂ d₂
     refine ihV ih ok hd hu h R₂ ?_
     intro b st₃ m3 iv s₃ h R₃ x₃ d₃
     exact setIT_sound ok R₃ (Den.mono d₂) d₃ (Den.mono (Den.mono (unSg_den d₁))) h fun st' s' hk' R' x' => ((T.later (more := m1) x₁).later (more := m2) x₂).of (r := .next) (c := .fl .next) hk' R' (x₃.trans x') trivial
    ·exact h.elim
   | Attribute o a ap =>
    conv at h => whnf
    split at h
    ·rename_i hp
     refine plainObj_wpAny_Assign_Attribute (ihV ih ok hd hu h R ?_) (swaps_plain hp)
     intro b st₁ m1 u s₁ h R₁ x₁ d₁
     refine ihV ih ok hd hu h R₁ ?_
     intro b st₂ m2 ov s₂ h R₂ x₂ d₂
     exact setAttr_sound cok ok R₂ d₂ (unSg_den (Den.mono d₁)) h fun st' h' t hk R' => (T.later (more := m1) x₁).of (r := .next) (c := .fl .next) hk R' (x₂.trans (Nx.mk' s₂ h' t)) trivial
    ·exact h.elim
   | _ => exact False.elim h
  | cons t1 r1 =>
   cases r1 with
   | cons => exact False.elim h
   | nil =>
   cases t0 with
   | Name x xp =>
    cases t1 with
    | Name z zp =>
     conv at h => whnf
     split at h
     ·rename_i hp
      split at h
      ·rename_i hnt
       refine wpAny_Assign_two (ihV ih ok hd hu h R ?_) rfl swapped_two
       intro a st₁ m1 u s₁ h R₁ x₁ d₁
       refine wpAny_assign_Name (store_sound ok R₁ d₁ h fun st₂ s₂ h₂ R₂ x₂ => ?_)
       refine wpAny_assign_Name (store_sound ok R₂ d₁ h₂ fun st₃ s₃ h₃ R₃ x₃ => ?_)
       exact T.of (r := .next) (c := .fl .next) h₃ R₃ ((x₁.trans x₂).trans x₃) trivial
      ·exact h.elim
     ·exact h.elim
    | _ => exact False.elim h
   | _ => exact False.elim h
 | AugAssign tg op v pos =>
  cases op with
  | Add =>
   cases tg with
   | Name x xp =>
    rcases locCel_some h with ⟨hk, h⟩ | ⟨_, h⟩
    rotate_left
    ·exact h.elim
    rw [nmKind_eq] at hk
    obtain ⟨old, ho, h⟩ := onOpt_some h
    obtain ⟨m, news, lw, u, X, a, b⟩ := rep_local R ho
    refine wpAny_AugAssign_Name (ldnE ok X.fr hk a ?_)
    refine ihV ih ok hd hu h R ?_
    intro b' st₁ m1 y s₁ h R₁ x₁ d₁
    exact iadd_sound (Den.mono b) d₁ h fun z v' t hk' d' => rep_store (s := { s₁ with toks := t }) ok R₁ d' hk fun h' t' R' => T.of (r := .next) (c := .fl .next) hk' R' (x₁.trans (Nx.mk' s₁ h' t')) trivial
   | Attribute o a ap =>
    conv at h => whnf
    refine wpAny_AugAssign_AttributeAny (ihV ih ok hd hu h R ?_)
    intro b st₁ m1 ov s₁ h R₁ x₁ d₁
    refine attr_sound cok ok R₁ d₁ h fun old u t h d' => ?_
    refine ihV ih ok hd hu h R₁ ?_
    intro b st₂ m2 y s₂ h R₂ x₂ d₂
    refine iadd_sound (Den.mono d') d₂ h fun z v' t' hk' dz => ?_
    exact setAttr_sound (s := { s₂ with toks := t' }) cok ok R₂ (Den.mono d₁) dz hk' fun st' h' t'' hk R' => (T.later (more := m1) (x₁.trans (nx_toks s₁ t))).of (r := .next) (c := .fl .next) hk R' (x₂.trans (Nx.mk' s₂ h' t'')) trivial
   | _ => exact False.elim h
  | _ => exact False.elim h
 | If t b e p =>
  conv at h => whnf
  refine wpAny_If (ihB ih ok hd hu h R ?_)
  intro a st₁ m1 c' s₁ h R₁ x₁ d₁
  cases d₁
  have z := ifT_sound h
  try dsimp only
  split
  ·rename_i hct
   exact ih F E (.sts b) st₁ k (ads ++ m1) s₁ Q ok (ltD hd) (ltU hu) (z.1 hct) R₁ (T.later x₁)
  ·rename_i hct
   exact ih F E (.sts e) st₁ k (ads ++ m1) s₁ Q ok (ltD hd) (ltU hu) (z.2 (by simpa using hct)) R₁ (T.later x₁)
 | Return v p =>
  refine hs_sound cok ok hd hu h R T ?_
  clear h
  intro h
  split at h
  ·rename_i e
   refine wpAny_Return_some (ihV ih ok hd hu h R ?_)
   intro a st₁ m1 u s₁ h R₁ x₁ d₁
   exact T.of (r := .ret _) (c := .fl (.ret u)) h R₁ x₁ d₁
  ·exact wpAny_Return_none (T.same (r := .ret .none) (c := .fl (.ret .none)) h R (Nx.refl s) rfl)
 | Break p =>
  conv at h => whnf
  exact wpAny_Break (T.same (r := .brk) (c := .fl .brk) h R (Nx.refl s) trivial)
 | Continue p =>
  conv at h => whnf
  exact wpAny_Continue (T.same (r := .cont) (c := .fl .cont) h R (Nx.refl s) trivial)
 | Pass p =>
  conv at h => whnf
  exact wpAny_Pass (T.same (r := .next) (c := .fl .next) h R (Nx.refl s) trivial)
 | For ta it bo oe p =>
  refine hs_sound cok ok hd hu h R T ?_
  clear h
  intro h
  cases oe <;> first | exact False.elim h | skip
  replace h : (match plainIter it with
   | true => ev C n F.sc.names (.ex it) st _
   | false => False) := h
  split at h
  ·rename_i hpi
   refine wpAny_For (ihV ih ok hd hu h R ?_) (folded_plain hpi)
   intro r st₁ m1 u s₁ h R₁ x₁ d₁
   obtain ⟨all, slot, hs, h⟩ := onSrc_some h
   refine iter_start ok R₁ d₁ hs fun s₂ R₂ x₂ => ?_
   refine forE_sound (Q := Q) (k := k) ok (fun E' st' k' ads' s' Q' hev R' T' => ih F E' (.sts _) st' k' ads' s' Q' ok (ltD hd) (ltU hu) hev R' T') (fun f s' hq => hq) all 0 _ _ s₂ h rfl R₂ ?_ (((T.later (more := m1) x₁)).later x₂)
   exact ⟨(s₁.heap.objs.size, 0), by rw [led_len R₁]; exact at_end _ _ _, rfl⟩
  ·exact h.elim
 | Try ta tb tc td p =>
  exact hs_sound cok ok hd hu h R T fun h => h.elim
 | While wt wb we p =>
  refine hs_sound cok ok hd hu h R T ?_
  clear h
  intro h
  cases we <;> first | exact False.elim h | skip
  exact wpAny_While (ih F E (.wl _ _) st k ads s Q ok (ltD hd) (ltU hu) h R T)
 | Expr e p =>
  cases e <;> first | exact False.elim h | skip
  refine wpAny_Expr_any (ihV ih ok hd hu h R ?_) (by show (F.sc.kind == .module && _) = false; rw [ok.kind]; rfl) rfl
  intro a st₁ m1 u s₁ h R₁ x₁ d₁
  exact T.of (r := .next) (c := .fl .next) h R₁ x₁ trivial
 | _ => exact False.elim h
theorem code_turn {t : Expr} {b : List Stmt} {env : Env} {A : Around} {R : Result → Shared → Prop}
  (turn : wpAny (model prog w) A (PySem.isTrue t env (eval t env)) (fun c s₂ =>
    if c then wpAny (model prog w) A (execs b env) (fun f s₃ => match f with
      | .next | .cont => codeAny (model prog w) A (.whileLoop t b [] env) R s₃
      | .brk => R (.ok .next) s₃
      | .ret v => R (.ok (.ret v)) s₃) (notedBy (model prog w) A env fun e s' => R (.error e) s') s₂
    else R (.ok .next) s₂)
    (notedBy (model prog w) A env fun e s' => R (.error e) s') s) : codeAny (model prog w) A (.whileLoop t b [] env) R s := by
 refine codeAny_of_tree ?_
 show wpAny _ A ((whileTurn t b [] env).onRaise (fun x => do noteFrame x env; theTreesLotGoes x)) _ _ s
 refine wpAny_noted ?_
 simp only [whileTurn]
 refine wpAny_bind (wpAny_mono turn (fun c s₂ h₂ => ?_) fun _ _ h' => h')
 cases c with
 | false =>
  simp only [Bool.false_eq_true, if_false] at h₂ ⊢
  exact wpAny_bind (wpAny_execs_nil (wpAny_pure h₂))
 | true =>
  simp only [if_true] at h₂ ⊢
  refine wpAny_bind (wpAny_mono h₂ (fun f s₃ h₃ => ?_) fun _ _ h' => h')
  cases f with
  | next => exact wpAny_pure ⟨rfl, h₃⟩
  | cont => exact wpAny_pure ⟨rfl, h₃⟩
  | brk => exact wpAny_pure h₃
  | ret v => exact wpAny_pure h₃
theorem sound_wl {t : Expr} {b : List Stmt} (ih : Sound w C n) (ok : FmOk C F) (hd : F.A.depth + (n + 1) < recursionLimit) (hu : F.A.units + 8 * (n + 1) < cLine) (h : ev C (n + 1) F.sc.names (.wl t b) st k) (R : Rep w F ads st s.heap) (T : Then w F ads s k Q) : Goal w F (.wl t b) Q E s := by
 conv at h => whnf
 refine code_turn (ihB ih ok hd hu h R ?_)
 intro a st₁ m1 c' s₁ h R₁ x₁ d₁
 cases d₁
 have z := ifT_sound h
 try dsimp only
 split
 ·rename_i hct
  refine ih F _ (.sts b) st₁ _ (ads ++ m1) s₁ (fun c s' => match c with
   | .fl f => match f with
    | .next | .cont => codeAny (model prog w) F.A (.whileLoop t b [] F.env) _ s'
    | .brk => Q (.fl .next) s'
    | .ret v => Q (.fl (.ret v)) s'
   | _ => False) ok (ltD hd) (ltU hu) (z.1 hct) R₁ ?_
  intro r st₂ m2 c s₂ h R₂ x₂ d₂
  have T₂ := (T.later (more := m1) x₁).later (more := m2) x₂
  cases r <;> (try exact h.elim) <;> cases c <;> try exact d₂.elim
  all_goals rename_i f
  ·cases f <;> try exact d₂.elim
   exact ih F E (.wl t b) st₂ k _ s₂ Q ok (ltD hd) (ltU hu) h R₂ T₂
  ·cases f <;> try exact d₂.elim
   exact T₂.same (r := .next) (c := .fl .next) h R₂ (Nx.refl _) trivial
  ·cases f <;> try exact d₂.elim
   exact ih F E (.wl t b) st₂ k _ s₂ Q ok (ltD hd) (ltU hu) h R₂ T₂
  ·cases f <;> try exact d₂.elim
   exact T₂.same (r := .ret _) h R₂ (Nx.refl _) d₂
 ·rename_i hct
  exact T.of (r := .next) (c := .fl .next) (z.2 (by simpa using hct)) R₁ x₁ trivial
theorem sound_ifexp {t a b : Expr} {p : Pos} (ih : Sound w C n) (ok : FmOk C F) (hd : F.A.depth + (n + 1) < recursionLimit) (hu : F.A.units + 8 * (n + 1) < cLine) (h : ev C (n + 1) F.sc.names (.ex (.IfExp t a b p)) st k) (R : Rep w F ads st s.heap) (T : Then w F ads s k Q) : Goal w F (.ex (.IfExp t a b p)) Q E s := by
 conv at h => whnf
 refine wpAny_IfExp (ihB ih ok hd hu h R ?_)
 intro r st₁ m1 c' s₁ h R₁ x₁ d₁
 cases d₁
 have z := ifT_sound h
 try dsimp only
 split
 ·rename_i hct
  exact ih F E (.ex a) st₁ k (ads ++ m1) s₁ Q ok (ltD hd) (ltU hu) (z.1 hct) R₁ (T.later x₁)
 ·rename_i hct
  exact ih F E (.ex b) st₁ k (ads ++ m1) s₁ Q ok (ltD hd) (ltU hu) (z.2 (by simpa using hct)) R₁ (T.later x₁)
theorem sound_tuple {es : List Expr} {q : Nat} {p : Pos} (ih : Sound w C n) (ok : FmOk C F) (hd : F.A.depth + (n + 1) < recursionLimit) (hu : F.A.units + 8 * (n + 1) < cLine) (h : ev C (n + 1) F.sc.names (.ex (.Tuple es q p)) st k) (R : Rep w F ads st s.heap) (T : Then w F ads s k Q) : Goal w F (.ex (.Tuple es q p)) Q E s := by
 conv at h => whnf
 split at h
 ·exact h.elim
 ·refine wpAny_Tuple_spliced (ihVs ih ok hd hu h R ?_)
  intro b st₁ m1 us s₁ h R₁ x₁ d₁
  split at h
  ·rename_i hb
   have hb' := Nat.le_of_ble_eq_true hb
   refine ⟨by rw [← d₁.length, sizeLine_eq]; lia, ?_⟩
   refine (T.later (more := m1) x₁).of (more := .one s₁.heap.objs.size 0) (r := .v (.obj st₁.led.length)) (c := .v (.ref s₁.heap.objs.size)) h (rep_push rfl R₁ (.tup (n := 0) d₁.mono)) (Nx.of_gens rfl rfl rfl) ?_
   exact ⟨(s₁.heap.objs.size, 0), by rw [led_len R₁]; exact at_end _ _ _, rfl⟩
  ·exact h.elim
theorem sound_list {es : List Expr} {p : Pos} (ih : Sound w C n) (ok : FmOk C F) (hd : F.A.depth + (n + 1) < recursionLimit) (hu : F.A.units + 8 * (n + 1) < cLine) (h : ev C (n + 1) F.sc.names (.ex (.List es p)) st k) (R : Rep w F ads st s.heap) (T : Then w F ads s k Q) : Goal w F (.ex (.List es p)) Q E s := by
 conv at h => whnf
 split at h
 ·exact h.elim
 ·refine wpAny_List_spliced (ihVs ih ok hd hu h R ?_)
  intro b st₁ m1 us s₁ h R₁ x₁ d₁
  split at h
  ·rename_i hb
   have hb' := Nat.le_of_ble_eq_true hb
   refine ⟨by rw [← d₁.length, sizeLine_eq]; lia, ?_⟩
   refine (T.later (more := m1) x₁).of (more := .one s₁.heap.objs.size 0) (r := .v (.obj st₁.led.length)) (c := .v (.ref s₁.heap.objs.size)) h (rep_push rfl R₁ (.list (n := 0) d₁.mono)) (Nx.of_gens rfl rfl rfl) ?_
   exact ⟨(s₁.heap.objs.size, 0), by rw [led_len R₁]; exact at_end _ _ _, rfl⟩
  ·exact h.elim
theorem sound_hx {a : Expr} {b : List Comprehension} {c : Scope} {p : Pos} (ih : Sound w C n) (cok : CfOk w C) (ok : FmOk C F) (hd : F.A.depth + (n + 1) < recursionLimit) (hu : F.A.units + 8 * (n + 1) < cLine) (h : ev C (n + 1) F.sc.names (.ex (.ListComp a b c p)) st k) (R : Rep w F ads st s.heap) (T : Then w F ads s k Q) : Goal w F (.ex (.ListComp a b c p)) Q E s := by
 refine hx_sound cok ok hd hu h R T ?_
 clear h
 intro h
 show wpAny (model prog w) F.A (eval (.ListComp a b c p) F.env) (fun v s' => Q (.v v) s') E s
 rw [eval_ListComp]
 refine compT_sound (use := none) ih ok hd hu h R fun m1 z st' d x Cc s' hk x' hC hne R' dx => ?_
 obtain ⟨mC, hmC⟩ := hC
 refine ⟨mC, hmC, fun h' hs' => ?_⟩
 refine T (.v (.dat d)) st' (m1 ++ z) (.v (.ref x)) _ hk ?_ (x'.trans (Nx.of_gens rfl rfl rfl)) ?_
 ·rw [← Wd.append_assoc]; exact rep_unhide R' hs'
 ·rw [← Wd.append_assoc]; exact dx
theorem sound_dict {ks : List (Option Expr)} {vs : List Expr} {p : Pos} (h : ev C (n + 1) F.sc.names (.ex (.Dict ks vs p)) st k) (R : Rep w F ads st s.heap) (T : Then w F ads s k Q) : Goal w F (.ex (.Dict ks vs p)) Q E s := by
 cases ks <;> first | exact False.elim h | skip
 cases vs <;> first | exact False.elim h | skip
 exact dic_new R fun s' R' x' => T (.v (.obj st.led.length)) _ (.one s.heap.objs.size 0) (.v (.ref s.heap.objs.size)) s' h R' x' ⟨(s.heap.objs.size, 0), by rw [led_len R]; exact at_end _ _ _, rfl⟩
theorem tempStr {o : Expr} {x : Str} {t : Tok} (r : Value) : letTemporaryGo o (.str x t) r = pure () := by cases o <;> rfl
theorem sl_sound {o : Expr} {lo hi : Option Expr} {q : Pos} {x : SV} {v vl vu : Value} {l u : Option Int} {k : SV → St → Prop} {Q : Value → Shared → Prop} (ok : FmOk C F) (R : Rep w F ads st s.heap) (d : Den F.B ads x v) (pl : PartV l vl) (pu : PartV u vu)
  (h : slT st x l u k) (T : ThenV w F ads s k Q) :
  wpAny (model prog w) F.A (subscriptTail o (.Slice lo hi none q) v (.ref s.heap.objs.size)) Q E { s with heap := s.heap.push { cls := .type "slice", data := .fields #[vl, vu, .none] } } := by
 cases x <;> try exact h.elim
 rotate_left
 ·rename_i dd
  cases dd <;> try exact h.elim
  rename_i ds
  exact slL_sound ok R d pl pu fun more r s' R' x' d' => T _ st more r s' h R' x' d'
 rename_i x
 obtain ⟨⟨t, rfl⟩, hl⟩ := d
 obtain ⟨m, news, lw, X⟩ := R
 have fin : ∀ z h' t' kk, z = Txt.slice x l u → Fr F.h₀ F.L h' m → News F.h₀ F.L h' (news ++ (ads.fz ++ lw)) → z.length ≤ x.length → Q (.str z t') { s with heap := h', toks := kk } := by
  intro z h' t' kk e F' N' hz
  subst e
  exact T.same h ⟨m, news, lw, F', N', X.loc, X.led, X.nd, X.ups⟩ (Nx.mk' s h' kk) ⟨⟨_, rfl⟩, Nat.le_trans hz hl⟩
 cases l <;> cases u
 ·cases pl; cases pu
  exact slice_strN_nn_len X.fr X.nw (fun h' t' kk F' N' hz => fin _ h' t' kk rfl F' N' hz) (by with_unfolding_all rfl) tempStr hl
 ·cases pl; obtain ⟨_, rfl⟩ := pu
  exact slice_strN_ns_len X.fr X.nw (fun h' t' kk F' N' hz => fin _ h' t' kk rfl F' N' hz) (by with_unfolding_all rfl) tempStr hl
 ·obtain ⟨_, rfl⟩ := pl; cases pu
  exact slice_strN_sn_len X.fr X.nw (fun h' t' kk F' N' hz => fin _ h' t' kk rfl F' N' hz) (by with_unfolding_all rfl) tempStr hl
 ·obtain ⟨_, rfl⟩ := pl; obtain ⟨_, rfl⟩ := pu
  exact slice_strN_ss_len X.fr X.nw (fun h' t' kk F' N' hz => fin _ h' t' kk rfl F' N' hz) (by with_unfolding_all rfl) tempStr hl
theorem part_sound {e : Option Expr} {k : Option Int → St → Prop} {Q : Value → Shared → Prop} (ih : Sound w C n) (ok : FmOk C F) (hd : F.A.depth + (n + 1) < recursionLimit) (hu : F.A.units + 8 * (n + 1) < cLine) (h : partT C n F.sc.names e st (ev C n) k) (R : Rep w F ads st s.heap)
  (hQ : ∀ l st' more v s', k l st' → Rep w F (ads ++ more) st' s'.heap → Nx F s s' → PartV l v → Q v s') : wpAny (model prog w) F.A (evalPart e F.env) Q E s := by
 cases e with
 | none => exact wpAny_evalPart_none (hQ none st .nil .none s h (by rw [Wd.append_nil]; exact R) (Nx.refl s) rfl)
 | some e =>
  have h : ev C n F.sc.names (.ex e) st (onV _) := h
  refine wpAny_evalPart_some (ihV ih ok hd hu h R ?_)
  intro r st₁ m1 v s₁ h R₁ x₁ d₁
  cases r <;> first | exact h.elim | skip
  exact hQ _ st₁ m1 v s₁ h R₁ x₁ d₁
theorem sub_sound {o i : Expr} {x y : SV} {v u : Value} {k : SV → Prop} {Q : Value → Shared → Prop} (hp : plainIdx i = true) (ok : FmOk C F) (R : Rep w F ads st s.heap) (d : Den F.B ads x v) (d' : Den F.B ads y u) (h : subT st x y k)
  (hQ : ∀ z v t, k z → Den F.B ads z v → Q v { s with toks := t }) : wpAny (model prog w) F.A (subscriptTail o i v u) Q E s := by
 cases y <;> first | exact False.elim h | skip
 obtain ⟨t', rfl⟩ := d'
 conv at h => whnf
 split at h
 ·rename_i x hx
  obtain rfl := strOnly_eq hx
  obtain ⟨⟨t, rfl⟩, hl⟩ := d
  obtain ⟨h1, h2, h3⟩ := h
  rw [sizeLine_eq] at hl
  exact item_str (fitsSsize_of (N := 9223372036854775808) (by lia) (by lia) (Int.le_refl _)) h1 h2 (fun hz => hQ _ _ _ h3 ⟨⟨_, rfl⟩, Nat.le_trans hz.2 (by rw [sizeLine_eq]; lia)⟩) (by cases i <;> first | rfl | cases hp) tempStr
 ·obtain ⟨⟨b, xs⟩, e, h⟩ := onOpt_some h
  obtain ⟨z, hz, hk⟩ := h
  exact idx_sound (fun l => by cases i <;> first | rfl | cases hp) ok R d e hz fun y dy => hQ z y s.toks hk dy
theorem sound_sub {o i : Expr} {p : Pos} (ih : Sound w C n) (ok : FmOk C F) (hd : F.A.depth + (n + 1) < recursionLimit) (hu : F.A.units + 8 * (n + 1) < cLine) (h : ev C (n + 1) F.sc.names (.ex (.Subscript o i p)) st k) (R : Rep w F ads st s.heap) (T : Then w F ads s k Q) : Goal w F (.ex (.Subscript o i p)) Q E s := by
 conv at h => whnf
 split at h
 ·rename_i hp
  refine Subscript_ (ihV ih ok hd hu h R ?_)
  intro a st₁ m1 ov s₁ h R₁ x₁ d₁
  refine ihV ih ok hd hu h R₁ ?_
  intro b st₂ m2 iv s₂ h R₂ x₂ d₂
  exact sub_sound hp ok R₂ (Den.mono d₁) d₂ h fun z v t hk d => (T.later (more := m1) x₁).of (r := .v z) (c := .v v) hk R₂ (x₂.trans (nx_toks s₂ t)) d
 ·cases i <;> first | exact False.elim h | skip
  rename_i lo hi stp q _
  cases stp <;> first | exact False.elim h | skip
  refine Subscript_ (ihV ih ok hd hu h R ?_)
  intro a st₁ m1 ov s₁ h R₁ x₁ d₁
  refine wpAny_Slice (part_sound ih ok hd hu h R₁ ?_)
  intro l st₂ m2 vl s₂ h R₂ x₂ p₂
  refine part_sound ih ok hd hu h R₂ ?_
  intro uu st₃ m3 vu s₃ h R₃ x₃ p₃
  refine wpAny_evalPart_none ?_
  exact sl_sound ok R₃ (Den.mono (Den.mono d₁)) p₂ p₃ h (((T.later (more := m1) x₁).later (more := m2) x₂).later (more := m3) x₃).v
theorem sound_unary {op : UnaryOp} {x : Expr} {p : Pos} (ih : Sound w C n) (ok : FmOk C F) (hd : F.A.depth + (n + 1) < recursionLimit) (hu : F.A.units + 8 * (n + 1) < cLine) (h : ev C (n + 1) F.sc.names (.ex (.UnaryOp op x p)) st k) (R : Rep w F ads st s.heap) (T : Then w F ads s k Q) : Goal w F (.ex (.UnaryOp op x p)) Q E s := by
 cases op <;> first | exact False.elim h | skip
 refine wpAny_UnaryOp (ihV ih ok hd hu h R ?_)
 intro r st₁ m1 u s₁ h R₁ x₁ d₁
 cases r <;> first | exact h.elim | skip
 obtain ⟨t, rfl⟩ := d₁
 exact PyProof.Rows.neg_int ((T.later (more := m1) x₁).same (r := .v (.int _)) (c := .v (.int _ _)) h R₁ (nx_toks s₁ _) ⟨_, rfl⟩)
theorem sound (cok : CfOk w C) : ∀ n, Sound w C n
 | 0 => fun F E tk st k ads s Q ok hd hu h R T => False.elim h
 | n + 1 => fun F E tk st k ads s Q ok hd hu h R T => by
  have ih := sound cok n
  cases tk with
  | ex e =>
   cases e with
   | Name x p => exact sound_name cok ok h R T
   | Constant c q p => exact sound_const h R T
   | Attribute o a p => exact sound_attr ih cok ok hd hu h R T
   | BinOp l op r p => exact sound_bin ih ok hd hu h R T
   | Compare l ops rs p => exact sound_cmp ih ok hd hu h R T
   | BoolOp op vs p => exact sound_bool ih ok hd hu h R T
   | Call f args kws p => exact sound_call ih cok ok hd hu h R T
   | IfExp t a b p => exact sound_ifexp ih ok hd hu h R T
   | UnaryOp op x p => exact sound_unary ih ok hd hu h R T
   | Tuple es q p => exact sound_tuple ih ok hd hu h R T
   | List es p => exact sound_list ih ok hd hu h R T
   | ListComp a b c p => exact sound_hx ih cok ok hd hu h R T
   | Dict a b p => exact sound_dict h R T
   | Subscript o i p => exact sound_sub ih ok hd hu h R T
   | _ => exact False.elim h
  | tr e => exact sound_tr ih ok hd hu h R T
  | st x => exact sound_st ih cok ok hd hu h R T
  | sts l => exact sound_sts ih ok hd hu h R T
  | args es p => exact sound_args ih ok hd hu h R T
  | wl t b => exact sound_wl ih ok hd hu h R T
end
noncomputable def noCell : List (Str × NameKind) → Bool
 | [] => true
 | (_, k) :: r => match k with
  | .cell => false
  | _ => noCell r
theorem noCell_sound : ∀ {l : List (Str × NameKind)}, noCell l = true → ∀ x ∈ l, x.2 ≠ .cell
 | (y, k) :: r, h, x, hx => by
  have rest : noCell r = true → x ∈ r → x.2 ≠ .cell := fun h hx => noCell_sound h x hx
  cases k <;> first | exact Bool.noConfusion h | (rcases List.mem_cons.mp hx with rfl | hx <;> first | exact rest h hx | exact nofun)
noncomputable def allLoc (ns : List (Str × NameKind)) : List Str → Bool
 | [] => true
 | x :: r => kLoc (nmKind x ns) && allLoc ns r
noncomputable def ndB : List Str → Bool
 | [] => true
 | x :: r => match hasName x r with
  | true => false
  | false => ndB r
theorem hasName_false {x : Str} : ∀ {l : List Str}, hasName x l = false → x ∉ l
 | [], _, h => nomatch h
 | y :: r, h, hx => by
  unfold hasName at h
  split at h
  ·cases h
  ·rename_i q
   rcases List.mem_cons.mp hx with rfl | hx
   ·exact sEq_false q rfl
   ·exact hasName_false h hx
theorem hasName_true {x : Str} : ∀ {l : List Str}, hasName x l = true → x ∈ l
 | [], h => by cases h
 | y :: r, h => by
  unfold hasName at h
  split at h
  ·rename_i q; rw [sEq_true q]; exact .head _
  ·exact .tail _ (hasName_true h)
theorem ndB_sound : ∀ {l : List Str}, ndB l = true → l.Nodup
 | [], _ => List.nodup_nil
 | x :: r, h => by
  unfold ndB at h
  split at h
  ·cases h
  ·rename_i q; exact List.nodup_cons.mpr ⟨hasName_false q, ndB_sound h⟩
noncomputable def constV (v : Value) : Bool := match v with
 | .none => true
 | .bool _ => true
 | .int _ _ => true
 | .str s _ => okLit s
 | .type _ => true
 | .builtin n => handedIn (.builtin n)
 | .ref _ => true
 | _ => false
theorem constV_den {v : Value} (h : constV v = true) (B : Heap) (W : Wd) : Den B W (toSV v) v := by
 cases v <;> first | exact Bool.noConfusion h | skip
 ·rfl
 ·rfl
 ·exact ⟨_, rfl⟩
 ·exact ⟨⟨_, rfl⟩, okLit_le h⟩
 ·exact ⟨rfl, rfl⟩
 ·exact ⟨rfl, h⟩
 ·exact ⟨rfl, rfl⟩
noncomputable def allConst : List (Str × Value) → Bool
 | [] => true
 | (_, v) :: r => constV v && allConst r
theorem allConst_sound : ∀ {l : List (Str × Value)}, allConst l = true → ∀ x ∈ l, constV x.2 = true := by
 intro l
 induction l with
 | nil => intro _ x hx; cases hx
 | cons p r ih =>
  intro h x hx
  obtain ⟨q, h⟩ := and_tr h
  rcases List.mem_cons.mp hx with rfl | hx
  ·exact q
  ·exact ih h x hx
noncomputable def kindFn (k : ScopeKind) : Bool := match k with
 | .function => true
 | _ => false
theorem not_tr {b : Bool} (h : (!b) = true) : b = false := by cases b <;> first | rfl | exact Bool.noConfusion h
theorem kindFn_eq {k : ScopeKind} (h : kindFn k = true) : k = .function := by cases k <;> first | rfl | exact Bool.noConfusion h
noncomputable def allLC (ns : List (Str × NameKind)) (cs : List Str) : List Str → Bool
 | [] => true
 | x :: r => (kLoc (nmKind x ns) || (kCel (nmKind x ns) && hasName x cs)) && allLC ns cs r
theorem allLC_sound {ns : List (Str × NameKind)} {cs : List Str} : ∀ {l : List Str}, allLC ns cs l = true → ∀ x ∈ l, ns.lookup x = some .local ∨ (ns.lookup x = some .cell ∧ x ∈ cs)
 | y :: r, h, x, hx => by
  obtain ⟨hk, h⟩ := and_tr h
  rcases List.mem_cons.mp hx with rfl | hx
  ·rcases (Bool.or_eq_true ..).mp hk with hk | hk
   ·exact .inl (kLoc_eq hk)
   ·exact .inr ⟨kCel_eq (and_tr hk).1, hasName_true (and_tr hk).2⟩
  ·exact allLC_sound h x hx
noncomputable def strsEq : List Str → List Str → Bool
 | [], l => l.isEmpty
 | x :: xs, l => match l with
  | [] => false
  | y :: ys => Fast.sEq x y && strsEq xs ys
theorem strsEq_eq : ∀ {xs ys : List Str}, strsEq xs ys = true → xs = ys := by
 intro xs
 induction xs with
 | nil => intro ys h; cases ys <;> first | rfl | exact Bool.noConfusion h
 | cons x xs ih =>
  intro ys h
  cases ys with
  | nil => exact Bool.noConfusion h
  | cons y ys =>
   obtain ⟨q, h⟩ := and_tr h
   rw [sEq_true q, ih h]
noncomputable def allCell (ns : List (Str × NameKind)) : List Str → Bool
 | [] => true
 | x :: r => kCel (nmKind x ns) && allCell ns r
theorem allCell_sound {ns : List (Str × NameKind)} : ∀ {l : List Str}, allCell ns l = true → ∀ x ∈ l, ns.lookup x = some .cell
 | y :: r, h, x, hx => by
  obtain ⟨hk, h⟩ := and_tr h
  rcases List.mem_cons.mp hx with rfl | hx
  ·exact kCel_eq hk
  ·exact allCell_sound h x hx
noncomputable def fnChk (e : FnE) : Bool := allCell e.scope.names e.cells && (strsEq ((cellsFrom 0 e.scope.names []).map (·.1)) e.cells && (allLC e.scope.names e.cells (e.names ++ e.more.map (·.1)) && (ndB (e.names ++ e.more.map (·.1)) && (Nat.beq e.names.length e.na && (!e.scope.isCoroutine && (!e.scope.isGenerator && (kindFn e.scope.kind && allConst e.more)))))))
theorem len1 {vs : List Value} (h : vs.length = 1) : ∃ a, vs = [a] := List.length_eq_one_iff.mp h
theorem lenS {vs : List Value} {n : Nat} (h : vs.length = n + 1) : ∃ a r, vs = a :: r ∧ r.length = n := by
 cases vs with
 | nil => cases h
 | cons a r => exact ⟨a, r, rfl, Nat.succ.inj h⟩
theorem len2 {vs : List Value} (h : vs.length = 2) : ∃ a b, vs = [a, b] := let ⟨a, _, e, h⟩ := lenS h; let ⟨b, q⟩ := len1 h; ⟨a, b, q ▸ e⟩
theorem len5 {vs : List Value} (h : vs.length = 5) : ∃ a b c d e, vs = [a, b, c, d, e] :=
 let ⟨a, _, e, h⟩ := lenS h; let ⟨b, _, e2, h⟩ := lenS h; let ⟨c, _, e3, h⟩ := lenS h; let ⟨x, y, q⟩ := len2 h; ⟨a, b, c, x, y, by rw [e, e2, e3, q]⟩
theorem FnOk.of {K : Frag} {e : FnE} (h : fnChk e = true) (hc : codeIn K e.cd e.qual = true) (at_ : ∃ oc od osl fd, K.lookup e.fa = some (⟨oc, od, .func fd, osl⟩ : Obj) ∧ fd.body = .stmts e.body ∧ fd.scope = e.scope ∧ (∀ L a, callEnv fd L a = envOf e.qual e.scope L a e.cd) ∧ fd.code = e.cd ∧ fd.qualname = e.qual ∧
  ∀ (s : Shared) (vs : List Value), K.In s.heap → vs.length = e.na → BindsTo s fd ⟨vs, []⟩ (zipV e.names vs ++ e.more)) : FnOk K e := by
 obtain ⟨h0, h⟩ := and_tr h
 obtain ⟨h1, h⟩ := and_tr h
 obtain ⟨h2, h⟩ := and_tr h
 obtain ⟨h3, h⟩ := and_tr h
 obtain ⟨h4, h⟩ := and_tr h
 obtain ⟨h5, h⟩ := and_tr h
 obtain ⟨h6, h⟩ := and_tr h
 obtain ⟨h7, h8⟩ := and_tr h
 replace h5 := not_tr h5
 replace h6 := not_tr h6
 refine ⟨at_, allCell_sound h0, hc, fun n => (cellsFrom_names e.scope.names n 0 [] [] rfl).trans (strsEq_eq h1), allLC_sound h2, ndB_sound h3, Nat.eq_of_beq_eq_true h4, h5, h6, ?_, fun x hx B W => constV_den (allConst_sound h8 x hx) B W⟩
 exact kindFn_eq h7
noncomputable def isNN (x : Option (Option Value)) : Bool := match x with
 | none => false
 | some y => match y with
  | none => true
  | some _ => false
theorem isNN_eq {x : Option (Option Value)} (h : isNN x = true) : x = some none := by
 cases x with
 | none => exact Bool.noConfusion h
 | some y => cases y <;> first | rfl | exact Bool.noConfusion h
noncomputable abbrev isVal (p : Value → Bool) (x : Option (Option Value)) : Bool := match x with
 | none => false
 | some y => match y with
  | none => false
  | some v => p v
theorem isVal_some {p : Value → Bool} {x : Option (Option Value)} (h : isVal p x = true) : ∃ v, x = some (some v) ∧ p v = true := by
 cases x with
 | none => exact Bool.noConfusion h
 | some y => cases y <;> first | exact ⟨_, rfl, h⟩ | exact Bool.noConfusion h
noncomputable def isRefV (f : Addr) (x : Option (Option Value)) : Bool := isVal (fun v => match v with
 | .ref a => Nat.beq a f
 | _ => false) x
theorem isRefV_eq {f : Addr} {x : Option (Option Value)} (h : isRefV f x = true) : x = some (some (.ref f)) := by
 obtain ⟨v, rfl, h⟩ := isVal_some h
 cases v <;> first | exact Bool.noConfusion h | rw [Nat.eq_of_beq_eq_true h]
noncomputable def isBi (n : String) (x : Option (Option Value)) : Bool := isVal (fun v => match v with
 | .builtin a => a == n
 | _ => false) x
theorem isBi_eq {n : String} {x : Option (Option Value)} (h : isBi n x = true) : x = some (some (.builtin n)) := by
 obtain ⟨v, rfl, h⟩ := isVal_some h
 cases v <;> first | exact Bool.noConfusion h | rw [eq_of_beq h]
noncomputable def isT (x : Option Bool) : Bool := match x with
 | none => false
 | some b => b
theorem isT_eq {x : Option Bool} (h : isT x = true) : x = some true := by
 cases x with
 | none => exact Bool.noConfusion h
 | some b => exact congrArg some h
noncomputable def all' {α : Type} (p : α → Bool) : List α → Bool
 | [] => true
 | x :: r => p x && all' p r
theorem all'_sound {α : Type} {p : α → Bool} : ∀ {l : List α}, all' p l = true → ∀ x ∈ l, p x = true
 | y :: r, h, x, hx => by
  obtain ⟨q, h⟩ := and_tr h
  rcases List.mem_cons.mp hx with rfl | hx
  ·exact q
  ·exact all'_sound h x hx
noncomputable def isPropOf (K : Frag) (p f : Addr) : Bool := match recIn K p "property" with
 | none => false
 | some l => match l with
  | [] => false
  | v :: _ => match v with
   | .ref a => Nat.beq a f
   | _ => false
theorem isPropOf_eq {K : Frag} {p f : Addr} (h : isPropOf K p f = true) : ∃ rest, recIn K p "property" = some (.ref f :: rest) := by
 unfold isPropOf at h
 cases q : recIn K p "property" with
 | none => rw [q] at h; exact Bool.noConfusion h
 | some l =>
  rw [q] at h
  cases l with
  | nil => exact Bool.noConfusion h
  | cons v r => cases v <;> first | exact Bool.noConfusion h | (rw [Nat.eq_of_beq_eq_true h]; exact ⟨r, rfl⟩)
noncomputable def clsBase (K : Frag) (C : Addr) : Bool := plainGet K C (Str.ofString "") && (hasDictIn K C && (isBi "object.__setattr__" (findIn K (.ref C) "__setattr__") && plainOver K C))
noncomputable def clsChk (K : Frag) (c : ClsE) : Bool := clsBase K c.C && (all' (fun a => isNN (findIn K (.ref c.C) a) && isNN (takerIn K c.C a)) c.attrs &&
  (all' (fun p => isRefV p.2 (findIn K (.ref c.C) p.1) && isFn K (.ref p.2)) c.meths &&
   all' (fun p => isRefV p.2.1 (findIn K (.ref c.C) p.1) && (isBi "property.__get__" (specialIn K (.ref p.2.1) "__get__") && (isT (takesIn K (.ref p.2.1)) && isPropOf K p.2.1 p.2.2))) c.props))
theorem ClsOk.of {K : Frag} {c : ClsE} (h : clsChk K c = true) : ClsOk K c := by
 unfold clsChk clsBase at h
 obtain ⟨b0, h⟩ := and_tr h
 obtain ⟨b1, b0⟩ := and_tr b0
 obtain ⟨b2, b0⟩ := and_tr b0
 obtain ⟨b3, b4⟩ := and_tr b0
 obtain ⟨h1, h⟩ := and_tr h
 obtain ⟨h2, h3⟩ := and_tr h
 refine ⟨fun a ha => ?_, fun a ha => ?_, fun a f hf => ?_, fun a p f hf => ?_⟩
 ·exact ⟨b1, b2, isNN_eq (and_tr (all'_sound h1 a (hasName_true ha))).1⟩
 ·exact ⟨isBi_eq b3, b4, isNN_eq (and_tr (all'_sound h1 a (hasName_true ha))).2⟩
 ·have z := and_tr (all'_sound h2 _ (lk_mem hf))
  exact ⟨b1, isRefV_eq z.1, z.2⟩
 ·have z := and_tr (all'_sound h3 _ (lk_mem hf))
  have y := and_tr z.2
  exact ⟨b1, b2, isRefV_eq z.1, isBi_eq y.1, isT_eq (and_tr y.2).1, isPropOf_eq (and_tr y.2).2⟩
noncomputable def GlobAt (K : Frag) (p : Str × Value) : Prop := constV p.2 = true ∧ (nsIn K mainGlobals p.1 = some (some p.2) ∨ (nsIn K mainGlobals p.1 = some none ∧ bootBuiltins p.1 = some p.2 ∧ Fast.sEq p.1 "__name__" = false))
theorem globs_of {K : Frag} {g : List (Str × Value)} (h : ∀ p ∈ g, GlobAt K p) : ∀ x v, lk x g = some v → (∀ B ads, Den B ads (toSV v) v) ∧ (nsIn K mainGlobals x = some (some v) ∨ (nsIn K mainGlobals x = some none ∧ bootBuiltins x = some v ∧ x ≠ "__name__")) := fun x v e => by
 obtain ⟨a, b⟩ := h _ (lk_mem e)
 refine ⟨fun B W => constV_den a B W, ?_⟩
 rcases b with b | ⟨b, c, d⟩
 ·exact .inl b
 ·exact .inr ⟨b, c, sEq_false d⟩
theorem fm_same {C C' : Cf} {F : Fm} (e : C'.K = C.K) (ok : FmOk C F) (hk : C'.known = true → C.known = true) : FmOk C' F := ⟨e ▸ ok.X, ok.G, ok.stay, ok.kind, ok.hand, fun q => ok.stack (hk q), fun q => ok.loud (hk q), ok.low, ok.loc, ok.gl, ok.bi, ok.cel, ok.cel2⟩
theorem mem_nil {α : Type} {p : α → Prop} : ∀ x ∈ ([] : List α), p x := fun _ h => by cases h
theorem mem_cons' {α : Type} {p : α → Prop} {a : α} {l : List α} (h : p a) (r : ∀ x ∈ l, p x) : ∀ x ∈ a :: l, p x := fun x hx => by
 rcases List.mem_cons.mp hx with rfl | hx
 ·exact h
 ·exact r x hx
noncomputable def forG (bnd : SV → St → (St → Prop) → Prop) (body : St → Kt → Prop) (v : SV) (all : List SV) (slot : Nat → SO) (p b : Nat) : Nat → List SV → St → Kt → Prop
 | j, [], st, k => st.led[p]? = some (slot j) ∧ srcT st v = some (all, slot) ∧ k .next { st with led := st.led.set p .gone }
 | j, x :: xs, st, k => st.led[p]? = some (slot j) ∧ srcT st v = some (all, slot) ∧ bnd x { st with led := st.led.set p (slot (j + 1)) } fun st₁ => body st₁ fun r st₂ => match r with
  | .next => ∃ n st₃, b ≤ n ∧ n ≤ st₂.led.length ∧ Trim n st₂ st₃ ∧ forG bnd body v all slot p b (j + 1) xs st₃ k
  | .ret y => k (.ret y) st₂
  | _ => False
section
variable {w : World} {C : Cf} {F : Fm} {ads : Wd} {s : Shared} {st : St} {A : Around} {E : Value → Shared → Prop}
theorem wd_split (ads m : Wd) (n : Nat) (h1 : ads.ads.length ≤ n) (h2 : n ≤ (ads ++ m).ads.length) : ∃ m' more, ads ++ m = (ads ++ m') ++ more ∧ (ads ++ m').ads.length = n := by
 obtain ⟨a, f⟩ := ads
 obtain ⟨b, g⟩ := m
 refine ⟨⟨b.take (n - a.length), []⟩, ⟨b.drop (n - a.length), g⟩, ?_, ?_⟩
 ·show Wd.mk (a ++ b) (f ++ g) = Wd.mk ((a ++ b.take (n - a.length)) ++ b.drop (n - a.length)) ((f ++ []) ++ g)
  rw [List.append_nil, List.append_assoc, List.take_append_drop]
 ·show (a ++ b.take (n - a.length)).length = n
  have h2' : n ≤ (a ++ b).length := h2
  have h1' : a.length ≤ n := h1
  rw [List.length_append] at h2'
  rw [List.length_append, List.length_take]
  lia
theorem forG_sound {tgt : Expr} {body : List Stmt} {I : Addr} {bd : St → Kt → Prop} {v : SV} {all : List SV} {slot : Nat → SO} {p : Nat} {k : Kt} {Q : CR → Shared → Prop} (ok : FmOk C F)
  (hb : ∀ (E' : Value → Shared → Prop) (st : St) (k' : Kt) (ads : Wd) (s : Shared) (Q' : CR → Shared → Prop), bd st k' → Rep w F ads st s.heap → Then w F ads s k' Q' → wpAny (model prog w) F.A (execs body F.env) (fun f s' => Q' (.fl f) s') E' s)
  {R : Result → Shared → Prop} (hR : ∀ f s', Q (.fl f) s' → R (.ok f) s') (dI : Den F.B ads (.obj p) (.ref I)) : ∀ (xs : List SV) (j : Nat) (st : St) (m : Wd) (s : Shared), forG (bindT F.sc.names tgt) bd v all slot p ads.ads.length j xs st k → all.drop j = xs → Rep w F (ads ++ m) st s.heap → Then w F ads s k Q →
   codeAny (model prog w) F.A (.forLoop tgt (.ref I) body [] F.env) R s
 | [], j, st, m, s, h, hd, Rp, T => by
  obtain ⟨h1, h2, h3⟩ := h
  refine code_for (iter_done ok.hand ok Rp dI.mono h1 h2 ?_ fun s' R' x' => ?_)
  ·rw [List.getElem?_eq_none_iff]
   rw [List.drop_eq_nil_iff] at hd; exact hd
  ·exact wpAny_execs_nil (hR _ _ (T.of (r := .next) (c := .fl .next) h3 R' x' trivial))
 | x :: xs, j, st, m, s, h, hd, Rp, T => by
  obtain ⟨h1, h2, h3⟩ := h
  obtain ⟨e1, e2, e3⟩ := srcT_mem h2 hd
  have hplt : p < st.led.length := (List.getElem?_eq_some_iff.mp h1).1
  refine code_for (iter_next ok Rp dI.mono h1 h2 e1 fun s₁ u R₁ x₁ du => ?_)
  have hp1 : (st.led.set p (slot (j + 1)))[p]? = some (slot (j + 1)) := by rw [List.getElem?_set_self hplt]
  refine iter_letGo (v := v) (st := { st with led := st.led.set p (slot (j + 1)) }) ok R₁ dI.mono hp1 ?_ e3 du ?_
  ·exact srck_set h1 h2
  ·refine bind_sound ok R₁ du h3 fun st₂ s₂ h₂ R₂ x₂ => ?_
   refine hb _ st₂ _ (ads ++ m) s₂ (fun c s' => match c with
    | .fl f => match f with
     | .next | .cont => codeAny (model prog w) F.A (.forLoop tgt (.ref I) body [] F.env) R s'
     | .brk => R (.ok .next) s'
     | .ret v => R (.ok (.ret v)) s'
    | _ => False) h₂ R₂ ?_
   intro r st₃ m₁ c s₃ h₃ R₃ x₃ d₃
   have xx := (x₁.trans x₂).trans x₃
   cases r with
   | next =>
    have go : codeAny (model prog w) F.A (.forLoop tgt (.ref I) body [] F.env) R s₃ := by
     obtain ⟨n, st₄, hb1, hb2, tr, h₄⟩ := h₃
     rw [Wd.append_assoc] at R₃
     rw [led_len' R₃] at hb2
     obtain ⟨m', more, e, hn⟩ := wd_split ads (m ++ m₁) n hb1 hb2
     rw [e] at R₃
     rw [← hn] at tr
     obtain ⟨z, R₄⟩ := rep_trim ok R₃ tr
     rw [Wd.append_assoc] at R₄
     have T' := T.later (more := .nil) xx
     rw [Wd.append_nil] at T'
     exact forG_sound ok hb hR dI xs (j + 1) st₄ _ s₃ h₄ e2 R₄ T'
    cases c with
    | fl f => cases f <;> first | exact go | exact d₃.elim
    | _ => exact d₃.elim
   | ret y =>
    rw [Wd.append_assoc] at R₃ d₃
    cases c with
    | fl f => cases f <;> first | exact d₃.elim | exact hR _ _ (T.of (r := .ret y) (c := .fl (.ret _)) h₃ R₃ xx d₃)
    | _ => exact d₃.elim
   | _ => exact h₃.elim
noncomputable def forHk (C : Cf) (n : Nat) (ns : List (Str × NameKind)) (a b : Expr) (c : List Stmt) (pos : Pos) : HkE Stmt := ⟨pos.line, pos.col, n + 1, .For a b c [] pos, fun ns' st k => ns' = ns ∧ plainIter b = true ∧ ev C n ns (.ex b) st fun r st₁ => match r with
 | .v src => ∃ all slot, srcT st₁ src = some (all, slot) ∧ forG (bindT ns a) (fun st k => ev C n ns (.sts c) st k) src all slot st₁.led.length (st₁.led.length + 1) 0 all { st₁ with led := st₁.led ++ [slot 0] } k
 | _ => False⟩
theorem forHk_ok {C' : Cf} {n : Nat} {ns : List (Str × NameKind)} {a b : Expr} {c : List Stmt} {pos : Pos} (cok : CfOk w C) (hK : C.K = C'.K) (hk : C.known = true → C'.known = true) : HsOk w C' (forHk C n ns a b c pos) := by
 intro F E ads st s k Q ok hd hu h R T
 obtain ⟨rfl, hpi, h⟩ := h
 have ok' : FmOk C F := fm_same hK ok hk
 have dd : (forHk C n F.sc.names a b c pos).d = n + 1 := rfl
 rw [dd] at hd hu
 have ih := sound cok n
 refine wpAny_For (ih F E (.ex _) st _ ads s (fun c s' => match c with
  | .v x => wpAny (model prog w) F.A (pyIter x) _ E s'
  | _ => False) ok' (by lia) (by lia) h R ?_) (folded_plain hpi)
 intro r st₁ m1 c s₁ h R₁ x₁ d₁
 split at h
 ·cases c with
  | v u =>
   obtain ⟨all, slot, hs, h⟩ := h
   refine iter_start ok' R₁ d₁ hs fun s₂ R₂ x₂ => ?_
   have el : st₁.led.length + 1 = (ads ++ m1 ++ Wd.one s₁.heap.objs.size 0).ads.length := by rw [led_len R₁, Wd.ads_append (ads ++ m1), List.length_append]; rfl
   rw [el] at h
   refine forG_sound (Q := Q) (k := k) (ads := ads ++ m1 ++ Wd.one s₁.heap.objs.size 0) ok' (fun E' st' k' ads' s' Q' hev R' T' => ih F E' (.sts _) st' k' ads' s' Q' ok' (by lia) (by lia) hev R' T') (fun f s' hq => hq) ?_ all 0 _ .nil s₂ h rfl (by rw [Wd.append_nil]; exact R₂) (((T.later (more := m1) x₁)).later x₂)
   exact ⟨(s₁.heap.objs.size, 0), by rw [led_len R₁]; exact at_end _ _ _, rfl⟩
  | _ => exact d₁.elim
 ·exact h.elim
end
section
variable {w : World} {C : Cf} {F : Fm} {ads : Wd} {s : Shared} {n : Nat} {st : St} {Q : CR → Shared → Prop} {E : Value → Shared → Prop}
theorem wl_turn {t : Expr} {b : List Stmt} {K : SR → St → Prop} (cok : CfOk w C) (ok : FmOk C F) (hd : F.A.depth + n < recursionLimit) (hu : F.A.units + 8 * n < cLine)
  (ht : ev C n F.sc.names (.tr t) st (fun r st' => r = .b true ∧ st' = st))
  (h : ev C n F.sc.names (.sts b) st (fun r st' => ∃ st'', Trim st.led.length st' st'' ∧ K r st''))
  (R : Rep w F ads st s.heap) (flow : ∀ r st'', K r st'' → r = .next ∨ r = .cont ∨ r = .brk)
  (next : ∀ st'' z s', K .next st'' ∨ K .cont st'' → Rep w F (ads ++ (⟨[], z⟩ : Wd)) st'' s'.heap → Nx F s s' → Goal w F (.wl t b) Q E s')
  (brk : ∀ st'' z s', K .brk st'' → Rep w F (ads ++ (⟨[], z⟩ : Wd)) st'' s'.heap → Nx F s s' → Q (.fl .next) s') : Goal w F (.wl t b) Q E s := by
 have sn := sound cok n
 refine code_turn (sn F _ (.tr t) st _ ads s (fun c s' => match c with
  | .b c => if c then wpAny (model prog w) F.A (execs b F.env) (fun f s₃ => match f with
      | .next | .cont => codeAny (model prog w) F.A (.whileLoop t b [] F.env) _ s₃
      | .brk => Q (.fl .next) s₃
      | .ret v => Q (.fl (.ret v)) s₃) _ s' else Q (.fl .next) s'
  | _ => False) ok hd hu ht R ?_)
 rintro a st₁ m1 c s₁ ⟨rfl, rfl⟩ R₁ x₁ d₁
 cases c with
 | b c' =>
  cases d₁
  dsimp only
  rw [if_pos rfl]
  have len1 : st₁.led.length = ads.ads.length := led_len R
  have len2 : st₁.led.length = (ads ++ m1).ads.length := led_len R₁
  refine sn F _ (.sts b) st₁ _ (ads ++ m1) s₁ (fun c s' => match c with
     | .fl f => match f with
      | .next | .cont => codeAny (model prog w) F.A (.whileLoop t b [] F.env) _ s'
      | .brk => Q (.fl .next) s'
      | .ret v => Q (.fl (.ret v)) s'
     | _ => False) ok hd hu h R₁ ?_
  intro r st₂ m2 c s₂ hk R₂ x₂ d₂
  obtain ⟨st₃, tr, hk⟩ := hk
  rw [Wd.append_assoc] at R₂
  rw [len1] at tr
  obtain ⟨z, R₃⟩ := rep_trim ok R₂ tr
  have x₃ := x₁.trans x₂
  rcases flow _ _ hk with rfl | rfl | rfl
  ·cases c with
   | fl f =>
    cases f <;> try exact d₂.elim
    exact next st₃ z s₂ (.inl hk) R₃ x₃
   | _ => exact d₂.elim
  ·cases c with
   | fl f =>
    cases f <;> try exact d₂.elim
    exact next st₃ z s₂ (.inr hk) R₃ x₃
   | _ => exact d₂.elim
  ·cases c with
   | fl f =>
    cases f <;> try exact d₂.elim
    exact brk st₃ z s₂ hk R₃ x₃
   | _ => exact d₂.elim
 | _ => exact d₁.elim
end
set_option backward.match.sparseCases true
section
variable {w : World} {C : Cf} {F : Fm} {ads : Wd} {s : Shared} {st : St}
theorem den_cut {B : Heap} {a1 a2 : List (Addr × Addr)} {fz : List (Addr × Obj)} {x : SV} {v : Value} (hp : okV a1.length x) (d : Den B ⟨a1 ++ a2, fz⟩ x v) : Den B ⟨a1, fz⟩ x v := by
 cases x with
 | obj i =>
  obtain ⟨p, hp', e⟩ := d
  refine ⟨p, ?_, e⟩
  rw [List.getElem?_append_left hp] at hp'
  exact hp'
 | _ => exact d
theorem denL_cut {B : Heap} {a1 a2 : List (Addr × Addr)} {fz : List (Addr × Obj)} : ∀ {xs : List SV} {vs : List Value}, (∀ x ∈ xs, okV a1.length x) → DenL B ⟨a1 ++ a2, fz⟩ xs vs → DenL B ⟨a1, fz⟩ xs vs := by
 intro xs vs p r
 induction r with
 | nil => exact .nil
 | cons d _ ih => exact .cons (den_cut (p _ (.head _)) d) (ih fun x hx => p x (.tail _ hx))
theorem perm_a {α : Type} (a b c : List α) : (a ++ b ++ c).Perm (b ++ (a ++ c)) := by
 rw [← List.append_assoc b]; exact List.Perm.append_right _ List.perm_append_comm
theorem perm_b {α : Type} (a b c : List α) (x : α) : (a ++ (b ++ x :: c)).Perm (x :: (a ++ (b ++ c))) := by
 rw [← List.append_assoc, ← List.append_assoc]; exact List.perm_middle
theorem entR_cut {P : Params} {B : Heap} {a1 a2 : List (Addr × Addr)} {fz : List (Addr × Obj)} : ∀ {fs : List (Str × SV)} {es : List DictEntry}, okF a1.length fs → EntR P B ⟨a1 ++ a2, fz⟩ es fs → EntR P B ⟨a1, fz⟩ es fs := by
 intro fs es h r
 induction r with
 | nil => exact .nil
 | cons d _ ih => exact .cons (den_cut h.1 d) (ih h.2)
theorem kvR_cut {B : Heap} {a1 a2 : List (Addr × Addr)} {fz : List (Addr × Obj)} : ∀ {fs : List (Str × SV)} {kvs : List (Str × Value)}, okF a1.length fs → KvR B ⟨a1 ++ a2, fz⟩ fs kvs → KvR B ⟨a1, fz⟩ fs kvs := by
 intro fs es h r
 induction r with
 | nil => exact .nil
 | cons d _ ih => exact .cons (den_cut h.1 d) (ih h.2)
noncomputable def okO (n : Nat) : SO → Prop
 | .inst _ fs => okF n fs
 | .list xs => ∀ x ∈ xs, okV n x
 | .tup xs => ∀ x ∈ xs, okV n x
 | .cell (some v) => okV n v
 | .dic fs => okF n fs
 | .it _ v _ => okV n v
 | _ => True
noncomputable def okL (n : Nat) : List SO → Prop
 | [] => True
 | o :: r => okO n o ∧ okL n r
theorem one_cut {P : Params} {B : Heap} {a1 a2 : List (Addr × Addr)} {fz : List (Addr × Obj)} {so : SO} {a d : Addr} {ps : List (Addr × Obj)} (h : okO a1.length so) (o : One P B ⟨a1 ++ a2, fz⟩ so a d ps) : One P B ⟨a1, fz⟩ so a d ps := by
 cases so with
 | inst => obtain ⟨_, _, e, rfl⟩ := o.inv; exact .inst (entR_cut h e)
 | raw => obtain rfl := o.inv; exact .raw
 | list => obtain ⟨_, _, e, rfl⟩ := o.inv; exact .list (denL_cut h e)
 | tup => obtain ⟨_, _, e, rfl⟩ := o.inv; exact .tup (denL_cut h e)
 | cell v =>
  obtain ⟨_, rfl, e⟩ := o.inv
  cases v with
  | some _ => obtain ⟨_, e, d⟩ := e; exact .cell e (den_cut h d)
  | none => exact .cell0 e
 | dic => obtain ⟨_, _, e, f, rfl⟩ := o.inv; exact .dic e (kvR_cut h f)
 | it => obtain ⟨_, _, e, d, rfl⟩ := o.inv; exact .it e (den_cut h d)
 | itr => obtain rfl := o.inv; exact .itr
 | rng => obtain ⟨_, _, _, e, rfl⟩ := o.inv; exact .rng e
 | tab => obtain ⟨rfl, _, e, rfl⟩ := o.inv; exact .tab e
 | gone => obtain rfl := o.inv; exact .gone
theorem led_cut {P : Params} {B : Heap} {a1 a2 : List (Addr × Addr)} {fz : List (Addr × Obj)} : ∀ {led : List SO} {as : List (Addr × Addr)} {news : List (Addr × Obj)}, okL a1.length led → LedR P B ⟨a1 ++ a2, fz⟩ as led news → LedR P B ⟨a1, fz⟩ as led news := by
 intro led as news h r
 induction r with
 | nil => exact .nil
 | cons o _ ih => exact .cons (one_cut h.1 o) (ih h.2)
theorem bindL_skip {kindOf : Str → Option NameKind} {x : Str} : ∀ {binds : List (Str × Value)} {m : Str → Option Value}, x ∉ binds.map (·.1) → bindL kindOf binds m x = m x
 | [], _, _ => rfl
 | (n, v) :: r, m, h => by
  rw [List.map_cons, List.mem_cons, not_or] at h
  unfold bindL
  rw [bindL_skip h.2]
  split
  ·exact if_neg h.1
  ·rfl
theorem bindC_skip {kindOf : Str → Option NameKind} {x : Str} : ∀ {binds : List (Str × Value)} {m : Str → Option Value}, x ∉ binds.map (·.1) → bindC kindOf binds m x = m x
 | [], _, _ => rfl
 | (n, v) :: r, m, h => by
  rw [List.map_cons, List.mem_cons, not_or] at h
  unfold bindC
  rw [bindC_skip h.2]
  split
  ·rfl
  ·exact if_neg h.1
theorem bindL_mem {kindOf : Str → Option NameKind} {x : Str} {v : Value} (hk : kindOf x = some .local) : ∀ {binds : List (Str × Value)} {m : Str → Option Value}, (binds.map (·.1)).Nodup → (x, v) ∈ binds → bindL kindOf binds m x = some v
 | (n, u) :: r, m, nd, h => by
  rw [List.map_cons, List.nodup_cons] at nd
  unfold bindL
  rcases List.mem_cons.mp h with e | h
  ·cases e
   rw [bindL_skip nd.1, if_pos hk]
   exact if_pos rfl
  ·exact bindL_mem hk nd.2 h
theorem bindC_mem {kindOf : Str → Option NameKind} {x : Str} {v : Value} (hk : kindOf x ≠ some .local) : ∀ {binds : List (Str × Value)} {m : Str → Option Value}, (binds.map (·.1)).Nodup → (x, v) ∈ binds → bindC kindOf binds m x = some v
 | (n, u) :: r, m, nd, h => by
  rw [List.map_cons, List.nodup_cons] at nd
  unfold bindC
  rcases List.mem_cons.mp h with e | h
  ·cases e
   rw [bindC_skip nd.1, if_neg hk]
   exact if_pos rfl
  ·exact bindC_mem hk nd.2 h
noncomputable def cellSlots (loc : List (Str × SV)) : List Str → List SO
 | [] => []
 | c :: r => .cell (lk c loc) :: cellSlots loc r
noncomputable def cellLoc : List Str → Nat → List (Str × SV)
 | [], _ => []
 | c :: r, i => (c, .obj i) :: cellLoc r (i + 1)
noncomputable def enterSt (cs : List Str) (loc : List (Str × SV)) (led : List SO) : St := match cs with
 | [] => ⟨loc, led⟩
 | c :: r => ⟨cellLoc (c :: r) led.length ++ loc, led ++ cellSlots loc (c :: r)⟩
theorem enterSt_eq (cs : List Str) (loc : List (Str × SV)) (led : List SO) : enterSt cs loc led = ⟨cellLoc cs led.length ++ loc, led ++ cellSlots loc cs⟩ := by
 cases cs with
 | nil => show St.mk _ _ = St.mk _ _; simp [cellLoc, cellSlots]
 | cons c r => rfl
theorem lk_cellLoc {x : Str} {sv : SV} : ∀ {cs : List Str} {i : Nat} {loc : List (Str × SV)}, lk x (cellLoc cs i ++ loc) = some sv → (∃ j, cs[j]? = some x ∧ sv = .obj (i + j)) ∨ (x ∉ cs ∧ lk x loc = some sv)
 | [], i, loc, h => .inr ⟨List.not_mem_nil, h⟩
 | c :: r, i, loc, h => by
  have h' : lk x ((c, SV.obj i) :: (cellLoc r (i + 1) ++ loc)) = some sv := h
  unfold lk at h'
  cases q : Fast.sEq x c with
  | true =>
   rw [q] at h'; cases h'
   exact .inl ⟨0, by rw [sEq_true q]; rfl, rfl⟩
  | false =>
   rw [q] at h'
   rcases lk_cellLoc h' with ⟨j, a, b⟩ | ⟨a, b⟩
   ·exact .inl ⟨j + 1, by simpa using a, by rw [b]; congr 1; lia⟩
   ·exact .inr ⟨by rw [List.mem_cons, not_or]; exact ⟨sEq_false q, a⟩, b⟩
theorem cells_led {P : Params} {B : Heap} {G : Wd} {cm : Str → Option Value} {loc : List (Str × SV)} : ∀ {cs : List (Str × Addr)} {cells : List (Addr × Obj)}, CellsAre cm cs cells → (∀ n ∈ cs.map (·.1), (lk n loc = none ∧ cm n = none) ∨ ∃ sv v, lk n loc = some sv ∧ cm n = some v ∧ Den B G sv v) →
  LedR P B G (cs.map fun p => (p.2, 0)) (cellSlots loc (cs.map (·.1))) cells := by
 intro cs cells r
 induction r with
 | nil => exact fun _ => .nil
 | @cons n c o cs cells hd r ih =>
  intro h
  have one : One P B G (.cell (lk n loc)) c 0 [(c, o)] := by
   rcases h n (.head _) with ⟨a, b⟩ | ⟨sv, v, a, b, d⟩
   ·rw [a]; rw [b] at hd; exact .cell0 hd
   ·rw [a]; rw [b] at hd; exact .cell hd d
  exact .cons one (ih fun m hm => h m (.tail _ hm))
theorem cellsAre_keys {cm : Str → Option Value} : ∀ {cs : List (Str × Addr)} {cells : List (Addr × Obj)}, CellsAre cm cs cells → cells.map (·.1) = cs.map (·.2) := by
 intro cs cells h
 induction h with
 | nil => rfl
 | cons _ _ ih => rw [List.map_cons, List.map_cons, ih]
theorem cells_at {cs : List (Str × Addr)} (nd : (cs.map (·.1)).Nodup) {x : Str} {j : Nat} (h : (cs.map (·.1))[j]? = some x) : ∃ a, cs.lookup x = some a ∧ cs[j]? = some (x, a) := by
 rw [List.getElem?_map, Option.map_eq_some_iff] at h
 obtain ⟨p, hp, rfl⟩ := h
 exact ⟨p.2, lookup_of_mem_nodup nd (List.mem_of_getElem? hp), hp⟩
structure FnOk0 (K : Frag) (e : FnE) : Prop where
 at_ : ∃ oc od osl fd, K.lookup e.fa = some (⟨oc, od, .func fd, osl⟩ : Obj) ∧ fd.body = .stmts e.body ∧ fd.scope = e.scope ∧ (∀ L a, callEnv fd L a = envOf e.qual e.scope L a e.cd) ∧ fd.code = e.cd ∧ fd.qualname = e.qual
 celk : ∀ x ∈ e.cells, e.scope.names.lookup x = some .cell
 code : codeIn K e.cd e.qual = true
 cells : ∀ n, (cellsFrom n e.scope.names []).map (·.1) = e.cells
 co : e.scope.isCoroutine = false
 gen : e.scope.isGenerator = false
 kind : e.scope.kind = .function
theorem FnOk.to0 {K : Frag} {e : FnE} (f : FnOk K e) : FnOk0 K e :=
 let ⟨oc, od, osl, fd, g1, g2, g3, g4, g5, g6, _⟩ := f.at_
 ⟨⟨oc, od, osl, fd, g1, g2, g3, g4, g5, g6⟩, f.celk, f.code, f.cells, f.co, f.gen, f.kind⟩
theorem enter_gen {loc₀ : List (Str × SV)} {args : Args} {e : FnE} {A : Around} {Rr : Result → Shared → Prop} {led₁ led₂ : List SO} (fo : FnOk0 C.K e) (ok : FmOk C F)
  (hA : C.known = true → A.frames = some F.stk) (hh : A.handled = none) (hd : A.depth < recursionLimit) (R : Rep w F ads st s.heap)
  (hled : st.led = led₁ ++ led₂) (hol : okL led₁.length led₁) (hov : okF led₁.length loc₀) (hcn : e.cells.Nodup)
  (hbind : ∀ (oc : Value) (od : Option Addr) (osl : Array (Option Value)) (fd : FuncData), C.K.lookup e.fa = some (⟨oc, od, .func fd, osl⟩ : Obj) → C.K.In s.heap → ∀ (M : Model) (A : Around) (E : Value → Shared → Prop) (Q : List (Str × Value) → Shared → Prop),
   (∀ h' binds, (∀ b o, s.heap.get? b = some o → h'.get? b = some o) → (∀ x ∈ binds, e.scope.names.lookup x.1 = some .local ∨ (e.scope.names.lookup x.1 = some .cell ∧ x.1 ∈ e.cells)) → (binds.map (·.1)).Nodup → (∀ x sv, lk x loc₀ = some sv → ∃ v, (x, v) ∈ binds ∧ Den F.B ads sv v) →
    (∀ x ∈ binds.map (·.1), x ∈ e.cells → (lk x loc₀).isSome = true) → Q binds { s with heap := h' }) →
   wpAny M A (bindArgs fd args) Q E s)
  (h : ∀ (F' : Fm) (W Wc : Wd) (h₁ : Heap) (t : Nat), FmOk C F' → F'.A = A.deeper F'.env → F'.sc = e.scope → F'.B = F.B → (F'.stk = F'.env :: F.stk ∧ F'.quiet = F.quiet ∧ F'.env.code = e.cd) → Wc.fz = [] → W.ads.length = led₁.length → Rep w F' (W ++ Wc) (enterSt e.cells loc₀ led₁) h₁ →
   (∀ z loc' led' h', Rep w F' (W ++ (⟨[], z⟩ : Wd)) ⟨loc', led'⟩ h' → Rep w F (ads ++ (⟨[], z⟩ : Wd)) { loc := st.loc, led := led' ++ led₂ } h') →
   (∀ z y v, Den F.B (W ++ (⟨[], z⟩ : Wd)) y v → Den F.B (ads ++ (⟨[], z⟩ : Wd)) y v) →
   wpAny (model prog w) F'.A (execs e.body F'.env) (fun f s' => Rr (.ok (.ret (match f with | .ret v => v | _ => .none))) s')
    (fun x s' => wpAny (model prog w) F'.A (leaving F'.env x) (fun _ s'' => Rr (.error x) s'') (fun x' s'' => Rr (.error x') s'') s') { s with heap := h₁, toks := t }) :
  codeAny (model prog w) A (.call (.ref e.fa) args) Rr s := by
 obtain ⟨oc, od, osl, fd, g1, g2, g3, g4, g5, g6⟩ := fo.at_
 have XK0 : C.K.In s.heap := rep_K ok R
 have hclo : fd.closure = [] := congrArg Env.cells (g4 0 0)
 refine codeAny_call_function hd (XK0 _ _ g1) rfl (by rw [g3]; exact fo.co) (by rw [g3]; exact fo.gen) g2 (by rw [g5, g6]; exact codeRec_of XK0 fo.code) (hbind oc od osl fd g1 XK0 _ _ _ _ fun hb binds kb hloc nd hden hall => ?_)
 have R := rep_same R kb
 revert R
 generalize es0 : ({ s with heap := hb } : Shared) = s₀
 intro R
 have ehb : s₀.heap = hb := by rw [← es0]
 rw [← ehb] at R
 have nx0 : ∀ h₁ t, ({ s₀ with heap := h₁, toks := t } : Shared) = { s with heap := h₁, toks := t } := fun h₁ t => by rw [← es0]
 have hlim : s₀.heap.NoLimit := let ⟨_, _, _, X⟩ := R; ok.G.lim.keeps X.fr.keep
 rw [hclo]
 have hkind : ∀ x ∈ binds, fd.scope.names.lookup x.1 = some .local ∨ (fd.scope.names.lookup x.1 = some .cell ∧ ((cellsFrom (s₀.heap.objs.size + 1) fd.scope.names []).lookup x.1).isSome = true) := fun x hx => by
  rw [g3]
  exact (hloc x hx).imp id fun q => ⟨q.1, cellsFrom_some _ _ _ (.inl q.1)⟩
 refine wpAny_newFunctionEnv_cells (by rw [g3]; exact fo.kind) hkind fun env he s₁ IC => ⟨hlim.keeps IC.toInCall.keep, codeAny_func ?_⟩
 let cs : List (Str × Addr) := cellsFrom (s₀.heap.objs.size + 1) e.scope.names []
 let en : Env := { envOf e.qual e.scope s₀.heap.objs.size e.fa e.cd with cells := cs }
 have hen : env = en := by
  rw [he]
  have g4' := g4 s₀.heap.objs.size e.fa
  show newEnv fd.scope s₀.heap.objs.size fd.globals (cellsFrom (s₀.heap.objs.size + 1) fd.scope.names []) (fd.qualname ++ ".<locals>.") (some e.fa) fd.code none fd.builtins = _
  rw [g3]
  have g4'' : { callEnv fd s₀.heap.objs.size e.fa with cells := cs } = en := by rw [g4']
  rw [← g4'']
  show newEnv e.scope _ _ _ _ _ _ _ _ = { newEnv fd.scope s₀.heap.objs.size fd.globals fd.closure (fd.qualname ++ ".<locals>.") (some e.fa) fd.code none fd.builtins with cells := cs }
  rw [g3]; rfl
 clear he
 subst hen
 obtain ⟨h₁, tk, rfl⟩ := IC.toInCall.same
 have hns : h₁.Ns s₀.heap.objs.size (bindL en.kindOf binds fun _ => none) := IC.toInCall.ns
 have hk₁ : ∀ b o, s₀.heap.get? b = some o → h₁.get? b = some o := IC.toInCall.keep
 have hcell : ∀ n c, cs.lookup n = some c → h₁.IsCell c (bindC en.kindOf binds (fun _ => none) n) := IC.cell
 have hap : cs.Pairwise fun x y => x.2 ≠ y.2 := IC.apart
 have hab : ∀ n c, (n, c) ∈ cs → s₀.heap.objs.size < c := IC.above
 have csn : cs.map (·.1) = e.cells := fo.cells _
 clear IC
 rw [nx0]
 obtain ⟨m, news, lw, X⟩ := R
 obtain ⟨oL, es, ep, hL, hLd, hLk, hLf⟩ := X.fr.ns
 have hF0 : F.h₀.get? F.L = none := by
  cases q : F.h₀.get? F.L with
  | none => rfl
  | some o => exact absurd (Heap.lt_size q) (Nat.not_lt.mpr X.fr.above)
 -- the ledger in two
 obtain ⟨asx, fz⟩ := ads
 obtain ⟨a1, a2, ea, hla⟩ : ∃ a1 a2, asx = a1 ++ a2 ∧ led₁.length = a1.length := by
  refine ⟨asx.take led₁.length, asx.drop led₁.length, (List.take_append_drop _ _).symm, ?_⟩
  have q : st.led.length = asx.length := X.led.length
  rw [hled, List.length_append] at q
  rw [List.length_take]; lia
 subst ea
 obtain ⟨n1, n2, e12, r1, r2⟩ : ∃ n1 n2, news = n1 ++ n2 ∧ LedR w.params F.B ⟨a1 ++ a2, fz⟩ a1 led₁ n1 ∧ LedR w.params F.B ⟨a1 ++ a2, fz⟩ a2 led₂ n2 := by
  have q := X.led
  rw [hled] at q
  exact led_split hla q
 subst e12
 let all : List (Addr × Obj) := n1 ++ (fz ++ ((F.L, oL) :: lw))
 have pmX : (n1 ++ n2 ++ (fz ++ lw)).Perm (n2 ++ (n1 ++ (fz ++ lw))) := perm_a _ _ _
 have ndX := (pmX.map (·.1)).nodup_iff.mp X.nd
 rw [List.map_append] at ndX
 have ndX' := List.nodup_append.mp ndX
 have pmA : all.Perm ((F.L, oL) :: (n1 ++ (fz ++ lw))) := perm_b _ _ _ _
 have inX : ∀ p ∈ n1 ++ (fz ++ lw), p ∈ n1 ++ n2 ++ (fz ++ lw) := fun p hp => pmX.mem_iff.mpr (List.mem_append_right _ hp)
 have nwA : ∀ p ∈ all, s₀.heap.get? p.1 = some p.2 ∧ F.h₀.get? p.1 = none := fun p hp => by
  rcases List.mem_cons.mp (pmA.mem_iff.mp hp) with rfl | q
  ·exact ⟨hL, hF0⟩
  ·exact ⟨(X.nw p (inX p q)).1, (X.nw p (inX p q)).2.2⟩
 have ndA : (all.map (·.1)).Nodup := by
  refine (pmA.map (·.1)).nodup_iff.mpr (List.nodup_cons.mpr ⟨fun q => ?_, ndX'.2.1⟩)
  obtain ⟨p, hp, e⟩ := List.mem_map.mp q
  exact (X.nw p (inX p hp)).2.1 e
 have nm : ∀ b o, F.h₀.get? b = some o → b ∉ all.map (·.1) := fun b o e q => by
  obtain ⟨p, hp, rfl⟩ := List.mem_map.mp q
  rw [(nwA p hp).2] at e; cases e
 have in2 : ∀ p ∈ n2, p ∈ n1 ++ n2 ++ (fz ++ lw) := fun p hp => pmX.mem_iff.mpr (List.mem_append_left _ hp)
 have nm2 : ∀ p ∈ n2, p.1 ∉ all.map (·.1) := fun p hp q => by
  have : p.1 ∈ ((F.L, oL) :: (n1 ++ (fz ++ lw))).map (·.1) := (pmA.map (·.1)).mem_iff.mp q
  rcases List.mem_cons.mp this with q | q
  ·exact (X.nw p (in2 p hp)).2.1 q
  ·exact ndX'.2.2 _ (List.mem_map_of_mem hp) _ q rfl
 have stay : F.h₀.StaysIn (hideAll s₀.heap (all.map (·.1))) := fun b o e => hideAll_get _ (X.fr.keep b o e) (nm b o e)
 let F' : Fm := ⟨F.B, hideAll s₀.heap (all.map (·.1)), s₀.heap.objs.size, en, A.deeper en, en :: F.stk, (F.L, oL) :: lw, F.quiet⟩
 have low' : LowOk (en :: F.stk) s₀.heap.objs.size ((F.L, oL) :: lw) := by
  exact (ok.low.ups X.ups).push (by show e.scope.kind ≠ _; rw [fo.kind]; decide) rfl fun vs q => by rw [hLd] at q; cases q
 have csnd : (cs.map (·.1)).Nodup := by rw [csn]; exact hcn
 have cel : ∀ x, e.scope.names.lookup x = some .local → cs.lookup x = none := fun x hx => by
  cases q : cs.lookup x with
  | none => rfl
  | some a =>
   have : x ∈ e.cells := csn ▸ List.mem_map_of_mem (mem_of_lookup q)
   rw [fo.celk x this] at hx; cases hx
 have ok' : FmOk C F' := ⟨ok.X.keeps stay, ok.G.keeps stay, fun b o e => stay b o (ok.stay b o e), fo.kind, hh, fun q => Around.frames_deeper (hA q), ok.loud, low', rfl, rfl, rfl, cel, fun x hx => Option.isSome_iff_exists.mp (cellsFrom_some _ _ _ (.inl hx))⟩
 rw [hla] at hol hov
 -- the cells
 obtain ⟨cells, cnw, car⟩ := Cl.news (h₀ := F'.h₀) (h := h₁) (L := s₀.heap.objs.size) (cm := bindC en.kindOf binds (fun _ => none)) (Nat.le_of_eq (hideAll_size _ _)) (cs := cs) fun n c hm => ⟨hcell n c (lookup_of_mem_nodup csnd hm), hab n c hm⟩
 have cbig : ∀ p ∈ cells, s₀.heap.objs.size < p.1 := fun p hp => by
  have : p.1 ∈ cs.map (·.2) := cellsAre_keys car ▸ List.mem_map_of_mem hp
  obtain ⟨q, hq, e⟩ := List.mem_map.mp this
  exact e ▸ hab q.1 q.2 hq
 have R' : Rep w F' ((⟨a1, fz⟩ : Wd) ++ (⟨cs.map fun p => (p.2, 0), []⟩ : Wd)) (enterSt e.cells loc₀ led₁) h₁ := by
  rw [enterSt_eq]
  have efz : ((⟨a1, fz⟩ : Wd) ++ (⟨cs.map fun p => (p.2, 0), []⟩ : Wd)).fz = fz := List.append_nil _
  have pm : (n1 ++ cells ++ (fz ++ (F.L, oL) :: lw)).Perm (cells ++ all) := perm_a _ _ _
  refine ⟨_, n1 ++ cells, (F.L, oL) :: lw, ⟨hns, fun b o q => hk₁ b o (of_hideAll _ q), Nat.le_of_eq (hideAll_size _ _)⟩, fun p hp => ?_, ?_, ?_, ?_, Ups.refl _⟩
  ·rw [efz] at hp
   rcases List.mem_append.mp (pm.mem_iff.mp hp) with hp | hp
   ·exact cnw p hp
   ·exact ⟨hk₁ _ _ (nwA p hp).1, Nat.ne_of_lt (Heap.lt_size (nwA p hp).1), hideAll_none _ (List.mem_map_of_mem hp)⟩
  ·intro x sv hx
   show ∃ v, locM en (bindL en.kindOf binds fun _ => none) x = some v ∧ _
   rcases lk_cellLoc hx with ⟨j, hj, rfl⟩ | ⟨hx, hl⟩
   ·rw [← csn] at hj
    obtain ⟨a, q1, q2⟩ := cells_at csnd hj
    refine ⟨.ref a, by unfold locM; rw [show en.cells.lookup x = some a from q1], (a, 0), ?_, rfl⟩
    show (a1 ++ cs.map fun p => (p.2, 0))[led₁.length + j]? = _
    rw [hla, List.getElem?_append_right (by lia), Nat.add_sub_cancel_left, List.getElem?_map, q2]; rfl
   ·obtain ⟨v, a, b⟩ := hden x sv hl
    have hk : e.scope.names.lookup x = some .local := (hloc _ a).resolve_right fun q => hx q.2
    refine ⟨v, ?_, (den_cut (okF_mem hov _ (lk_mem hl)) b).mono⟩
    have : locM en (bindL en.kindOf binds fun _ => none) x = (bindL en.kindOf binds fun _ => none) x := by unfold locM; rw [show en.cells.lookup x = none from cel x hk]
    rw [this]
    exact bindL_mem hk nd a
  ·show LedR w.params F.B _ (a1 ++ cs.map fun p => (p.2, 0)) (led₁ ++ cellSlots loc₀ e.cells) (n1 ++ cells)
   refine LedR.append ((led_cut hol r1).mono) ?_
   rw [← csn]
   refine cells_led car fun n hn => ?_
   have hkc : e.scope.names.lookup n = some .cell := fo.celk n (csn ▸ hn)
   have hnl : en.kindOf n ≠ some .local := by rw [show en.kindOf n = some .cell from hkc]; decide
   cases q : lk n loc₀ with
   | some sv =>
    obtain ⟨v, a, b⟩ := hden n sv q
    exact .inr ⟨sv, v, rfl, bindC_mem hnl nd a, (den_cut (okF_mem hov _ (lk_mem q)) b).mono⟩
   | none =>
    refine .inl ⟨rfl, bindC_skip fun hm => ?_⟩
    have := hall n hm (csn ▸ hn)
    rw [q] at this; cases this
  ·rw [efz]
   refine (pm.map (·.1)).nodup_iff.mpr ?_
   rw [List.map_append, List.nodup_append]
   refine ⟨?_, ndA, fun a ha b hb e => ?_⟩
   ·rw [cellsAre_keys car, List.nodup_iff_pairwise_ne, List.pairwise_map]; exact hap
   ·obtain ⟨p, hp, rfl⟩ := List.mem_map.mp ha
    obtain ⟨q, hq, rfl⟩ := List.mem_map.mp hb
    have h1 := cbig p hp
    have h2 := Heap.lt_size (nwA q hq).1
    rw [e] at h1
    exact Nat.lt_asymm h1 h2
 have eW : ∀ z : List (Addr × Obj), ((⟨a1 ++ a2, fz⟩ : Wd) ++ (⟨[], z⟩ : Wd)) = ((⟨a1, fz⟩ : Wd) ++ (⟨[], z⟩ : Wd)) ++ (⟨a2, []⟩ : Wd) := fun z => by
  show Wd.mk (a1 ++ a2 ++ []) (fz ++ z) = Wd.mk (a1 ++ [] ++ a2) (fz ++ z ++ [])
  simp
 refine h F' ⟨a1, fz⟩ _ h₁ _ ok' rfl rfl rfl ⟨rfl, rfl, rfl⟩ rfl hla.symm R' ?_ ?_
 ·intro z loc' led' h' R1
  obtain ⟨m', news', lw', X'⟩ := R1
  have u := X'.ups
  have nw' : ∀ p ∈ news' ++ ((fz ++ z) ++ lw'), h'.get? p.1 = some p.2 ∧ p.1 ≠ F'.L ∧ F'.h₀.get? p.1 = none := X'.nw
  have nd' : ((news' ++ ((fz ++ z) ++ lw')).map (·.1)).Nodup := X'.nd
  cases u with
  | cons u =>
   rename_i sl lw₂
   have pm : (news' ++ ((fz ++ z) ++ ((F.L, { oL with slots := sl }) :: lw₂))).Perm ((F.L, { oL with slots := sl }) :: (news' ++ ((fz ++ z) ++ lw₂))) := perm_b _ _ _ _
   have nd2 := (pm.map (·.1)).nodup_iff.mp nd'
   rw [List.map_cons, List.nodup_cons] at nd2
   have hLn := (nw' _ (pm.mem_iff.mpr (.head _))).1
   have hid : ∀ p ∈ n2, (hideAll s₀.heap (all.map (·.1))).get? p.1 = some p.2 := fun p hp => hideAll_get _ (X.nw p (in2 p hp)).1 (nm2 p hp)
   have pm3 : (news' ++ n2 ++ ((fz ++ z) ++ lw₂)).Perm (n2 ++ (news' ++ ((fz ++ z) ++ lw₂))) := perm_a _ _ _
   refine ⟨m, news' ++ n2, lw₂, ⟨⟨_, es, ep, hLn, hLd, hLk, hLf⟩, fun b o q => X'.fr.keep b o (stay b o q), X.fr.above⟩, fun p hp => ?_, X.loc.mono, ?_, ?_, X.ups.trans u⟩
   ·rcases List.mem_append.mp (pm3.mem_iff.mp hp) with hp | hp
    ·exact ⟨X'.fr.keep _ _ (hid p hp), (X.nw p (in2 p hp)).2⟩
    ·refine ⟨(nw' p (pm.mem_iff.mpr (.tail _ hp))).1, fun q => ?_, ?_⟩
     ·exact nd2.1 (List.mem_map.mpr ⟨p, hp, q⟩)
     ·cases q : F.h₀.get? p.1 with
      | none => rfl
      | some o =>
       have hz : (hideAll s₀.heap (all.map (·.1))).get? p.1 = none := (nw' p (pm.mem_iff.mpr (.tail _ hp))).2.2
       rw [stay _ _ q] at hz; cases hz
   ·have q1 : LedR w.params F.B ((⟨a1 ++ a2, fz⟩ : Wd) ++ (⟨[], z⟩ : Wd)) a1 led' news' := by
     rw [eW]
     have := X'.led.mono (more := ⟨a2, []⟩)
     have ea1 : ((⟨a1, fz⟩ : Wd) ++ (⟨[], z⟩ : Wd)).ads = a1 := List.append_nil a1
     rw [ea1] at this
     exact this
    have q2 := r2.mono (more := ⟨[], z⟩)
    have ea2 : ((⟨a1 ++ a2, fz⟩ : Wd) ++ (⟨[], z⟩ : Wd)).ads = a1 ++ a2 := List.append_nil _
    rw [ea2]
    exact q1.append q2
   ·refine (pm3.map (·.1)).nodup_iff.mpr ?_
    rw [List.map_append, List.nodup_append]
    refine ⟨ndX'.1, nd2.2, fun a ha b hb e => ?_⟩
    obtain ⟨p, hp, rfl⟩ := List.mem_map.mp ha
    obtain ⟨q, hq, rfl⟩ := List.mem_map.mp hb
    have z1 := hid p hp
    have z2 : (hideAll s₀.heap (all.map (·.1))).get? q.1 = none := (nw' q (pm.mem_iff.mpr (.tail _ hq))).2.2
    rw [← e, z1] at z2; cases z2
 ·intro z y v d
  rw [eW]; exact d.mono
theorem okF_append {n : Nat} : ∀ {a b : List (Str × SV)}, okF n a → okF n b → okF n (a ++ b)
 | [], _, _, h => h
 | (_, _) :: _, _, h, h' => ⟨h.1, okF_append h.2 h'⟩
theorem okF_zip {n : Nat} : ∀ {xs : List Str} {svs : List SV}, (∀ x ∈ svs, okV n x) → okF n (zipS xs svs)
 | [], _, _ => trivial
 | _ :: _, [], _ => trivial
 | _ :: _, _ :: _, h => ⟨h _ (.head _), okF_zip fun x hx => h x (.tail _ hx)⟩
theorem okV_toSV {n : Nat} (v : Value) : okV n (toSV v) := by cases v <;> trivial
theorem okF_more {n : Nat} : ∀ more : List (Str × Value), okF n (toSVs more)
 | [] => trivial
 | (_, v) :: r => ⟨okV_toSV v, okF_more r⟩
theorem lk_some_mem {α : Type} {x : Str} : ∀ {l : List (Str × α)}, x ∈ l.map (·.1) → (lk x l).isSome = true
 | (y, a) :: r, h => by
  unfold lk
  cases q : Fast.sEq x y with
  | true => rfl
  | false =>
   rw [List.map_cons, List.mem_cons] at h
   exact lk_some_mem (h.resolve_left (sEq_false q))
theorem zipS_names : ∀ (xs : List Str) (vs : List SV), xs.length = vs.length → (zipS xs vs).map (·.1) = xs
 | [], [], _ => rfl
 | x :: xs, v :: vs, h => by
  show x :: (zipS xs vs).map (·.1) = _
  rw [zipS_names xs vs (by simpa using h)]
 | [], _ :: _, h => by simp at h
 | _ :: _, [], h => by simp at h
theorem toSVs_names : ∀ more : List (Str × Value), (toSVs more).map (·.1) = more.map (·.1)
 | [] => rfl
 | (x, v) :: r => by show x :: (toSVs r).map (·.1) = _; rw [toSVs_names r]; rfl
theorem lk_zip_some {B : Heap} {G : Wd} {xs : List Str} {svs : List SV} {vs : List Value} {more : List (Str × Value)} {x : Str} (D : DenL B G svs vs) (hl : xs.length = svs.length) (h : x ∈ (zipV xs vs ++ more).map (·.1)) : (lk x (zipS xs svs ++ toSVs more)).isSome = true := by
 refine lk_some_mem ?_
 rw [List.map_append, zip_names xs vs (hl.trans D.length)] at h
 rw [List.map_append, zipS_names xs svs hl, toSVs_names]
 exact h
theorem enter_sub {svs : List SV} {vs : List Value} {e : FnE} {A : Around} {Rr : Result → Shared → Prop} {led₁ led₂ : List SO} (fo : FnOk C.K e) (ok : FmOk C F)
  (hA : C.known = true → A.frames = some F.stk) (hh : A.handled = none) (hd : A.depth < recursionLimit) (R : Rep w F ads st s.heap) (D : DenL F.B ads svs vs) (hlen : vs.length = e.na)
  (hled : st.led = led₁ ++ led₂) (hol : okL led₁.length led₁) (hov : ∀ x ∈ svs, okV led₁.length x) (hcn : e.cells.Nodup)
  (h : ∀ (F' : Fm) (W Wc : Wd) (h₁ : Heap) (t : Nat), FmOk C F' → F'.A = A.deeper F'.env → F'.sc = e.scope → F'.B = F.B → (F'.stk = F'.env :: F.stk ∧ F'.quiet = F.quiet ∧ F'.env.code = e.cd) → Wc.fz = [] → W.ads.length = led₁.length → Rep w F' (W ++ Wc) (enterSt e.cells (zipS e.names svs ++ toSVs e.more) led₁) h₁ →
   (∀ z loc' led' h', Rep w F' (W ++ (⟨[], z⟩ : Wd)) ⟨loc', led'⟩ h' → Rep w F (ads ++ (⟨[], z⟩ : Wd)) { loc := st.loc, led := led' ++ led₂ } h') →
   (∀ z y v, Den F.B (W ++ (⟨[], z⟩ : Wd)) y v → Den F.B (ads ++ (⟨[], z⟩ : Wd)) y v) →
   wpAny (model prog w) F'.A (execs e.body F'.env) (fun f s' => Rr (.ok (.ret (match f with | .ret v => v | _ => .none))) s')
    (fun x s' => wpAny (model prog w) F'.A (leaving F'.env x) (fun _ s'' => Rr (.error x) s'') (fun x' s'' => Rr (.error x') s'') s') { s with heap := h₁, toks := t }) :
  codeAny (model prog w) A (.call (.ref e.fa) ⟨vs, []⟩) Rr s := by
 refine enter_gen (loc₀ := zipS e.names svs ++ toSVs e.more) fo.to0 ok hA hh hd R hled hol (okF_append (okF_zip hov) (okF_more _)) hcn (fun oc od osl fd g1 XK M A E Q hQ => ?_) h
 obtain ⟨oc', od', osl', fd', g1', g2, g3, g4, g5, g6, g7⟩ := fo.at_
 rw [g1] at g1'
 cases g1'
 refine g7 s vs XK hlen M A E Q (hQ s.heap _ (fun _ _ e => e) (fun x hx => fo.loc x.1 ?_) ?_ (fun x sv hx => lk_zip (fun y hy => fo.more y hy F.B ads) D hx) fun x hx _ => lk_zip_some D (by rw [fo.len, ← hlen, D.length]) hx)
 ·rcases List.mem_append.mp hx with q | q
  ·exact List.mem_append_left _ (zip_names e.names vs (by rw [fo.len, hlen]) ▸ List.mem_map_of_mem q)
  ·exact List.mem_append_right _ (List.mem_map_of_mem q)
 ·rw [List.map_append, zip_names e.names vs (by rw [fo.len, hlen])]; exact fo.nd
theorem wc_nil {w : World} {F' : Fm} {W Wc : Wd} {loc₀ : List (Str × SV)} {led₁ : List SO} {h₁ : Heap} (ez : Wc.fz = []) (eL : W.ads.length = led₁.length) (R : Rep w F' (W ++ Wc) (enterSt [] loc₀ led₁) h₁) : Rep w F' W ⟨loc₀, led₁⟩ h₁ := by
 have h1 := led_len' R
 rw [Wd.ads_append, List.length_append, eL] at h1
 have h2 : (enterSt [] loc₀ led₁).led.length = led₁.length := rfl
 rw [h2] at h1
 obtain ⟨a, z⟩ := Wc
 have e1 : a = [] := List.eq_nil_of_length_eq_zero (by dsimp only at h1; lia)
 have e2 : z = [] := ez
 subst e1 e2
 have e3 : W ++ (⟨[], []⟩ : Wd) = W := Wd.append_nil W
 rw [e3] at R
 exact R
theorem call_sub {n : Nat} {svs : List SV} {vs : List Value} {e : FnE} {A : Around} {k : Kt} {Q : CR → Shared → Prop} {Rr : Result → Shared → Prop} {led₁ led₂ : List SO} (ih : Sound w C n) (fo : FnOk C.K e) (ok : FmOk C F)
  (hA : C.known = true → A.frames = some F.stk) (hh : A.handled = none) (hd : A.depth + 1 + n < recursionLimit) (hu : A.units + 3 + 8 * n < cLine) (R : Rep w F ads st s.heap) (D : DenL F.B ads svs vs) (hlen : vs.length = e.na)
  (hled : st.led = led₁ ++ led₂) (hol : okL led₁.length led₁) (hov : ∀ x ∈ svs, okV led₁.length x) (hcn : e.cells.Nodup)
  (h : ev C n e.scope.names (.sts e.body) (enterSt e.cells (zipS e.names svs ++ toSVs e.more) led₁) (fun r st' => ∃ x y led', (r = .ret x ∨ (r = .next ∧ x = .none)) ∧ SvT led₁.length st'.led x y ∧ SosT led₁.length st'.led (st'.led.take led₁.length) led' ∧ k (.v y) { loc := st.loc, led := led' ++ led₂ }))
  (T : Then w F ads s k Q) (hR : ∀ v s', Q (.v v) s' → Rr (.ok (.ret v)) s') :
  codeAny (model prog w) A (.call (.ref e.fa) ⟨vs, []⟩) Rr s := by
 refine enter_sub fo ok hA hh (by omega) R D hlen hled hol hov hcn fun F' W Wc h₁ t ok' eA eS eB eT eZ eL R' back bv => ?_
 refine ih F' _ (.sts e.body) _ _ (W ++ Wc) _ (fun c s' => match c with
   | .fl f => Rr (.ok (.ret (match f with | .ret v => v | _ => .none))) s'
   | _ => False) ok' (by rw [eA]; show A.depth + 1 + n < _; omega) (by rw [eA]; show A.units + 3 + 8 * n < _; omega) (by rw [eS]; exact h) R' ?_
 intro r st' more c s' hk R1 x dr
 obtain ⟨y, y', led', hr, sv, so, hk⟩ := hk
 rw [← eL] at sv so
 rw [Wd.append_assoc] at R1 dr
 obtain ⟨z, R2, den⟩ := rep_trimV (st' := ⟨[], led'⟩) ok' R1 ⟨(fun x y h => nomatch h), so⟩
 have x' : Nx F s s' := (Nx.mk' s h₁ t).trans (show NxB F.quiet _ s' by rw [← eT.2.1]; exact x)
 have fin : ∀ u, Den F'.B (W ++ (Wc ++ more)) y u → Q (.v u) s' := fun u du => by
  refine T (.v y') _ ⟨[], z⟩ (.v u) s' hk (back z _ _ _ R2) x' ?_
  have := den y y' u sv du
  rw [eB] at this
  exact bv z _ _ this
 rcases hr with rfl | ⟨rfl, rfl⟩
 ·cases c with
  | fl fl => cases fl with
   | ret u => exact hR _ _ (fin u dr)
   | _ => exact dr.elim
  | _ => exact dr.elim
 ·cases c with
  | fl fl => cases fl with
   | next => exact hR _ _ (fin .none rfl)
   | _ => exact dr.elim
  | _ => exact dr.elim
theorem ups_of {h' : Heap} : ∀ {lw : List (Addr × Obj)}, (∀ p ∈ lw, ∃ sl, h'.get? p.1 = some { p.2 with slots := sl }) → ∃ lw', Ups lw lw' ∧ ∀ p ∈ lw', h'.get? p.1 = some p.2
 | [], _ => ⟨[], .nil, fun _ h => by cases h⟩
 | (a, o) :: r, hp => by
  obtain ⟨sl, e⟩ := hp (a, o) (.head _)
  obtain ⟨lw', u, q⟩ := ups_of (fun p h => hp p (.tail _ h))
  exact ⟨(a, { o with slots := sl }) :: lw', .cons u, fun p h => by
   rcases List.mem_cons.mp h with rfl | h
   ·exact e
   ·exact q p h⟩
theorem funFrames_of {h base : Heap} : ∀ {l : List Env}, (∀ env ∈ l, env.scope.kind ≠ .module ∧ ∃ L o, env.frame = some L ∧ base.get? L = none ∧ h.get? L = some o ∧ ∀ vs, o.data ≠ .fields vs) → h.FunFrames base l
 | [], _ => trivial
 | env :: r, q => ⟨(q env (.head _)).1, (q env (.head _)).2, funFrames_of fun x hx => q x (.tail _ hx)⟩
theorem rep_leave {h : Heap} {e : Addr} {cls : Value} {args : List Value} {E : Value → Shared → Prop} {Q : Unit → Shared → Prop} {M : Model} {outer : List Env} (hst : F.stk = F.env :: outer) (hkn : C.known = true) (ok : FmOk C F) (R : Rep w F ads st h) (hx : Heap.MadeExcOf h s.heap e cls args)
  (hQ : ∀ h', Rep w F ads st h' → (∃ o, h'.get? e = some o ∧ o.cls = cls) → Q () { s with heap := h' }) : wpAny M F.A (leaving F.env (.ref e)) Q E s := by
 obtain ⟨m, news, lw, X⟩ := R
 obtain ⟨oL, es, ep, hL, hLd, hLk, hLf⟩ := X.fr.ns
 have lowk := ok.low.ups X.ups
 have inlw : ∀ p ∈ lw, p ∈ news ++ (ads.fz ++ lw) := fun p hp => List.mem_append_right _ (List.mem_append_right _ hp)
 let keys : List Addr := F.L :: lw.map (·.1)
 have hl : h.FunFrames (hideAll h keys) F.stk := funFrames_of fun env he => by
  obtain ⟨a1, L', a2, a3⟩ := lowk.env env he
  rcases a3 with rfl | a3
  ·exact ⟨a1, F.L, oL, a2, hideAll_none _ (.head _), hL, fun vs q => by rw [hLd] at q; cases q⟩
  ·obtain ⟨p, hp, rfl⟩ := List.mem_map.mp a3
   exact ⟨a1, p.1, p.2, a2, hideAll_none _ (.tail _ a3), (X.nw p (inlw p hp)).1, lowk.dat p hp⟩
 obtain ⟨_, L0, hf0, _⟩ := ok.low.env F.env (by rw [hst]; exact .head _)
 rw [hst] at hl
 refine wpAny_leaves_madeW (hst ▸ ok.stack hkn) hf0 (fun b o q => of_hideAll _ q) hl hx fun h' t x1 x2 x3 x4 => ?_
 have stays : ∀ b o, h.get? b = some o → b ∉ keys → h'.get? b = some o := fun b o q nb => x1.1 b o (hideAll_get _ q nb)
 have upto : h.UpToSlots h' := (Heap.UpToSlots.of_keeps hx.keeps).trans x4
 refine hQ h' ?_ x1.there
 obtain ⟨lw', u, hu⟩ := ups_of (h' := h') (lw := lw) fun p hp => upto p.1 p.2 (X.nw p (inlw p hp)).1 (lowk.dat p hp)
 have pmA : (news ++ (ads.fz ++ lw)).Perm (lw ++ (news ++ ads.fz)) := by
  rw [← List.append_assoc]; exact List.perm_append_comm
 have ndP := (pmA.map (·.1)).nodup_iff.mp X.nd
 rw [List.map_append] at ndP
 have ndP' := List.nodup_append.mp ndP
 have nmN : ∀ p ∈ news ++ ads.fz, p.1 ∉ keys := fun p hp q => by
  rcases List.mem_cons.mp q with q | q
  ·exact (X.nw p (pmA.mem_iff.mpr (List.mem_append_right _ hp))).2.1 q
  ·exact ndP'.2.2 _ q _ (List.mem_map_of_mem hp) rfl
 refine ⟨m, news, lw', ⟨upto.ns X.fr.ns, fun b o q => stays b o (X.fr.keep b o q) fun hm => ?_, X.fr.above⟩, fun p hp => ?_, X.loc, X.led, ?_, X.ups.trans u⟩
 ·rcases List.mem_cons.mp hm with rfl | hm
  ·exact absurd (Heap.lt_size q) (Nat.not_lt.mpr X.fr.above)
  ·obtain ⟨p, hp, rfl⟩ := List.mem_map.mp hm
   rw [(X.nw p (inlw p hp)).2.2] at q; cases q
 ·have hp' : p ∈ news ++ ads.fz ∨ p ∈ lw' := by
   rw [← List.append_assoc] at hp; exact List.mem_append.mp hp
  rcases hp' with q | q
  ·have z := X.nw p (pmA.mem_iff.mpr (List.mem_append_right _ q))
   exact ⟨stays _ _ z.1 (nmN p q), z.2⟩
  ·have : p.1 ∈ lw.map (·.1) := u.keys ▸ List.mem_map_of_mem q
   obtain ⟨p', hp', e'⟩ := List.mem_map.mp this
   have z' := X.nw p' (inlw p' hp')
   rw [e'] at z'
   exact ⟨hu p q, z'.2⟩
 ·have e1 : (news ++ (ads.fz ++ lw')).map (·.1) = (news ++ (ads.fz ++ lw)).map (·.1) := by
   simp only [List.map_append, u.keys]
  rw [e1]; exact X.nd
end
section
variable {w : World} {C : Cf} {s : Shared}
theorem enter_top {e : FnE} {A : Around} {Rr : Result → Shared → Prop} {svs : List SV} {vs : List Value} (q : Bool) (hid : List (Addr × Obj)) (W : Wd) (led : List SO) (fo : FnOk C.K e) (hcell : ∀ x ∈ e.scope.names, x.2 ≠ .cell)
  (hw : ∀ p ∈ hid, s.heap.get? p.1 = some p.2) (nd : (hid.map (·.1)).Nodup) (hz : W.fz = []) (hled : LedR w.params (hideAll s.heap (hid.map (·.1))) W W.ads led hid)
  (X : C.K.In (hideAll s.heap (hid.map (·.1)))) (G : GlobOk (hideAll s.heap (hid.map (·.1)))) (hA : C.known = true → A.frames = some [] ∧ q = false) (hh : A.handled = none) (hd : A.depth < recursionLimit)
  (D : DenL (hideAll s.heap (hid.map (·.1))) W svs vs) (hlen : vs.length = e.na)
  (h : ∀ (F' : Fm) (h₁ : Heap) (t : Nat), FmOk C F' → F'.A = A.deeper F'.env → F'.sc = e.scope → F'.h₀ = hideAll s.heap (hid.map (·.1)) → F'.B = F'.h₀ → F'.quiet = q → Rep w F' W ⟨zipS e.names svs ++ toSVs e.more, led⟩ h₁ →
   wpAny (model prog w) F'.A (execs e.body F'.env) (fun f s' => Rr (.ok (.ret (match f with | .ret v => v | _ => .none))) s')
    (fun x s' => wpAny (model prog w) F'.A (leaving F'.env x) (fun _ s'' => Rr (.error x) s'') (fun x' s'' => Rr (.error x') s'') s') { s with heap := h₁, toks := t }) :
  codeAny (model prog w) A (.call (.ref e.fa) ⟨vs, []⟩) Rr s := by
 have nocell : ∀ x, e.scope.names.lookup x = some .cell → (NameKind.cell ≠ NameKind.cell) := fun x hx => hcell _ (mem_of_lookup hx)
 have floc : ∀ x ∈ e.names ++ e.more.map (·.1), e.scope.names.lookup x = some .local := fun x hx => (fo.loc x hx).resolve_right fun q => nocell x q.1 rfl
 obtain ⟨oc, od, osl, fd, g1, g2, g3, g4, g5, g6, g7⟩ := fo.at_
 have sub : ∀ b o, (hideAll s.heap (hid.map (·.1))).get? b = some o → s.heap.get? b = some o := fun b o e => of_hideAll _ e
 have XK : C.K.In s.heap := X.keeps sub
 have GK : GlobOk s.heap := G.keeps sub
 refine (codeAny_call_def (body := e.body) (binds := zipV e.names vs ++ e.more) (by omega) (XK _ _ g1) rfl GK.lim (by rw [g5, g6]; exact codeRec_of XK fo.code) g2 (g7 s vs XK hlen)
  (by rw [g3]; exact hcell) (by
   rw [g3]
   intro x hx
   refine floc x.1 ?_
   rcases List.mem_append.mp hx with q | q
   ·exact List.mem_append_left _ (zip_names e.names vs (by rw [fo.len, hlen]) ▸ List.mem_map_of_mem q)
   ·exact List.mem_append_right _ (List.mem_map_of_mem q)) (fun h₁ hns hk₁ => ?_) (by rw [g3]; exact fo.co) (by rw [g3]; exact fo.gen) (by rw [g3]; exact fo.kind))
 rw [g4]
 let en : Env := envOf e.qual e.scope s.heap.objs.size e.fa e.cd
 let F' : Fm := ⟨hideAll s.heap (hid.map (·.1)), hideAll s.heap (hid.map (·.1)), s.heap.objs.size, en, A.deeper en, [en], [], q⟩
 have low' : LowOk [en] s.heap.objs.size [] := ⟨fun env he => by
  rw [List.mem_singleton.mp he]
  exact ⟨by show e.scope.kind ≠ _; rw [fo.kind]; decide, s.heap.objs.size, rfl, .inl rfl⟩, fun p hp => nomatch hp⟩
 have ok' : FmOk C F' := ⟨X, G, fun b o e => e, fo.kind, hh, fun k => Around.frames_deeper (hA k).1, fun k => (hA k).2, low', rfl, rfl, rfl, fun _ _ => rfl, fun x hx => absurd rfl (nocell x hx)⟩
 have nd' : ((zipV e.names vs ++ e.more).map (·.1)).Nodup := by
  rw [List.map_append, zip_names e.names vs (by rw [fo.len, hlen])]; exact fo.nd
 have R' : Rep w F' W ⟨zipS e.names svs ++ toSVs e.more, led⟩ h₁ := by
  refine ⟨_, hid, [], ⟨hns, fun b o q => hk₁ b o (of_hideAll _ q), Nat.le_of_eq (hideAll_size _ _)⟩, fun p hp => ?_, ?_, hled, ?_, Ups.refl _⟩
  ·rw [hz, List.nil_append, List.append_nil] at hp
   exact ⟨hk₁ _ _ (hw p hp), Nat.ne_of_lt (Heap.lt_size (hw p hp)), hideAll_none _ (List.mem_map_of_mem hp)⟩
  ·intro x sv hx
   obtain ⟨v, a, b⟩ := lk_zip (fun y hy => fo.more y hy _ W) D hx
   exact ⟨v, lookup_reverse_of_mem nd' a, b⟩
  ·rw [hz, List.nil_append, List.append_nil]; exact nd
 exact h F' h₁ _ ok' rfl rfl rfl rfl rfl R'
end
set_option backward.match.sparseCases false
noncomputable def stAt : Nat → List Stmt → Stmt
 | 0, s :: _ => s
 | n + 1, _ :: r => stAt n r
 | _, [] => .Pass default
noncomputable def clsBody : Stmt → List Stmt
 | .ClassDef _ _ _ b _ _ _ _ _ _ _ => b
 | _ => []
noncomputable def fBody : Stmt → List Stmt
 | .FunctionDef _ _ b _ _ _ _ _ _ _ => b
 | _ => []
noncomputable def fScope : Stmt → Scope
 | .FunctionDef _ _ _ _ _ _ s _ _ _ => s
 | _ => default
noncomputable def fArgs : Stmt → Arguments
 | .FunctionDef _ a _ _ _ _ _ _ _ _ => a
 | _ => default
noncomputable def fnOf (name qual : Str) (ps : Arguments) (b : List Stmt) (sc : Scope) (df kdf doc md : Value) (ann : Option Addr) (cd ct : Value) : FuncData :=
 { name := name, qualname := qual, params := ps, body := .stmts b, scope := sc, globals := mainGlobals, closure := [], defaults := df, kwdefaults := kdf, doc := doc, pyModule := md, annotations := ann, code := cd, closureTuple := ct, builtins := builtinsNs }
noncomputable def o3 (P : Params) : Obj := ⟨(.type "dict"), none, (.dict (List.toArray [⟨PyData.keyHash P "__name__", .str "__name__" 165, (.str "law_mq0411_01" 1274)⟩, ⟨PyData.keyHash P "__doc__", .str "__doc__" 166, .none⟩, ⟨PyData.keyHash P "__package__", .str "__package__" 167, .none⟩, ⟨PyData.keyHash P "__loader__", .str "__loader__" 168, (.builtin "__main__.__loader__#opaque")⟩, ⟨PyData.keyHash P "__spec__", .str "__spec__" 169, .none⟩, ⟨PyData.keyHash P "__annotations__", .str "__annotations__" 170, (.ref 6)⟩, ⟨PyData.keyHash P "__builtins__", .str "__builtins__" 171, (.ref 4)⟩, ⟨PyData.keyHash P "__file__", .str "__file__" 173, (.str "/claim/cut.py" 172)⟩, ⟨PyData.keyHash P "__cached__", .str "__cached__" 174, .none⟩, ⟨PyData.keyHash P "_sre", .str "_sre" 275, (.ref 12)⟩, ⟨PyData.keyHash P "deque", .str "deque" 317, (.type "collections.deque")⟩, ⟨PyData.keyHash P "_wall", .str "_wall" 330, (.ref 44)⟩, ⟨PyData.keyHash P "_twin_re_1", .str "_twin_re_1" 370, (.ref 49)⟩, ⟨PyData.keyHash P "_whence", .str "_whence" 380, (.ref 56)⟩, ⟨PyData.keyHash P "_index", .str "_index" 388, (.ref 63)⟩, ⟨PyData.keyHash P "UnsupportedOperation", .str "UnsupportedOperation" 410, (.ref 73)⟩, ⟨PyData.keyHash P "IOBase", .str "IOBase" 442, (.ref 93)⟩, ⟨PyData.keyHash P "BufferedIOBase", .str "BufferedIOBase" 460, (.ref 108)⟩, ⟨PyData.keyHash P "TextIOBase", .str "TextIOBase" 478, (.ref 120)⟩, ⟨PyData.keyHash P "BytesIO", .str "BytesIO" 740, (.ref 350)⟩, ⟨PyData.keyHash P "StringIO", .str "StringIO" 1027, (.ref 597)⟩, ⟨PyData.keyHash P "_kind", .str "_kind" 1038, (.ref 606)⟩, ⟨PyData.keyHash P "_fspath", .str "_fspath" 1047, (.ref 613)⟩, ⟨PyData.keyHash P "_check_arg_types", .str "_check_arg_types" 1057, (.ref 620)⟩, ⟨PyData.keyHash P "isabs", .str "isabs" 1064, (.ref 627)⟩, ⟨PyData.keyHash P "join", .str "join" 1075, (.ref 751)⟩, ⟨PyData.keyHash P "join_path", .str "join_path" 1076, (.ref 634)⟩, ⟨PyData.keyHash P "dirname", .str "dirname" 1086, (.ref 641)⟩, ⟨PyData.keyHash P "shlex", .str "shlex" 1227, (.ref 732)⟩, ⟨PyData.keyHash P "split", .str "split" 1237, (.ref 744)⟩, ⟨PyData.keyHash P "join_shlex", .str "join_shlex" 1245, (.ref 751)⟩, ⟨PyData.keyHash P "_find_unsafe", .str "_find_unsafe" 1247, (.ref 752)⟩, ⟨PyData.keyHash P "quote", .str "quote" 1254, (.ref 759)⟩, ⟨PyData.keyHash P "parse_keqv_list", .str "parse_keqv_list" 1267, (.ref 766)⟩, ⟨PyData.keyHash P "parse_http_list", .str "parse_http_list" 1273, (.ref 771)⟩, ⟨PyData.keyHash P "_law_text", .str "_law_text" 1285, (.ref 778)⟩, ⟨PyData.keyHash P "_law_tree", .str "_law_tree" 1297, (.ref 785)⟩, ⟨PyData.keyHash P "_law_marked", .str "_law_marked" 1303, (.ref 790)⟩, ⟨PyData.keyHash P "_law_written", .str "_law_written" 1309, (.ref 795)⟩, ⟨PyData.keyHash P "_law_word", .str "_law_word" 1315, (.ref 800)⟩, ⟨PyData.keyHash P "_law_read", .str "_law_read" 1321, (.ref 805)⟩, ⟨PyData.keyHash P "law", .str "law" 1327, (.ref 810)⟩]) 42), #[]⟩
noncomputable def o4 (P : Params) : Obj := ⟨(.type "module"), (some 0), .plain, #[]⟩
noncomputable def o48 (P : Params) : Obj := ⟨(.type "tuple"), none, (.seq #[(.int (14) 0), (.int (17) 0), (.int (4) 0), (.int (1) 0), (.int (1) 0), (.int (21) 0), (.int (9) 0), (.int (0) 0), (.int (604043296) 0), (.int (1) 0), (.int (0) 0), (.int (0) 0), (.int (0) 0), (.int (0) 0), (.int (0) 0), (.int (8) 0), (.int (4) 0), (.int (0) 0), (.int (13) 0), (.int (14) 0), (.int (21) 0), (.int (9) 0), (.int (0) 0), (.int (604043296) 0), (.int (1) 0), (.int (0) 0), (.int (0) 0), (.int (0) 0), (.int (0) 0), (.int (0) 0), (.int (8) 0), (.int (4) 0), (.int (0) 0), (.int (1) 0)] 0), #[]⟩
noncomputable def o49 (P : Params) : Obj := ⟨(.type "re.Pattern"), none, (.fields #[(.str "[^\\w@%+=:,./-]" 332), (.int (256) 369), (.int (0) 0), .none, .none, (.ref 48), (.int (0) 0)]), #[]⟩
noncomputable def o62 (P : Params) : Obj := ⟨(.type "code"), none, (.fields #[(.str "_index" 381), (.str "_index" 382), (.str "/claim/cut.py" 383), (.int (13) 0), (.int (2) 0), (.int (0) 0), (.int (0) 0), (.int (3) 0), (.ref 57), (.bool true), (.int (318) 0), (.ref 58), .none, (.ref 59), (.ref 60), (.ref 61), (.int (386) 0), (.int (13) 0), (.str "/claim/cut.py" 387)]), #[]⟩
noncomputable def o63 (P : Params) : Obj := ⟨(.type "function"), none, (.func (fnOf "_index" "_index" (fArgs (stAt 6 Challenge.pw_mq0411_01.main.body)) (fBody (stAt 6 Challenge.pw_mq0411_01.main.body)) (fScope (stAt 6 Challenge.pw_mq0411_01.main.body)) .none .none .none (.str "io" 371) none (.ref 62) .none)), #[]⟩
noncomputable def o89 (P : Params) : Obj := ⟨(.type "code"), none, (.fields #[(.str "__new__" 425), (.str "IOBase.__new__" 426), (.str "/claim/cut.py" 427), (.int (25) 0), (.int (1) 0), (.int (1) 0), (.int (0) 0), (.int (15) 0), (.ref 84), (.bool true), (.int (318) 0), (.ref 85), .none, (.ref 86), (.ref 87), (.ref 88), (.int (431) 0), (.int (25) 0), (.str "/claim/cut.py" 432)]), #[]⟩
noncomputable def o90 (P : Params) : Obj := ⟨(.type "function"), none, (.func (fnOf "__new__" "IOBase.__new__" (fArgs (stAt 1 (clsBody (stAt 8 Challenge.pw_mq0411_01.main.body)))) (fBody (stAt 1 (clsBody (stAt 8 Challenge.pw_mq0411_01.main.body)))) (fScope (stAt 1 (clsBody (stAt 8 Challenge.pw_mq0411_01.main.body)))) .none .none .none (.str "io" 371) none (.ref 89) .none)), #[]⟩
noncomputable def o92 (P : Params) : Obj := ⟨(.type "dict"), none, (.dict (List.toArray [⟨PyData.keyHash P "__module__", .str "__module__" 418, (.str "io" 423)⟩, ⟨PyData.keyHash P "__firstlineno__", .str "__firstlineno__" 422, (.int (22) 421)⟩, ⟨PyData.keyHash P "__new__", .str "__new__" 433, (.ref 94)⟩, ⟨PyData.keyHash P "__static_attributes__", .str "__static_attributes__" 434, (.ref 91)⟩, ⟨PyData.keyHash P "__dict__", .str "__dict__" 437, (.ref 95)⟩, ⟨PyData.keyHash P "__weakref__", .str "__weakref__" 439, (.ref 96)⟩, ⟨PyData.keyHash P "__doc__", .str "__doc__" 440, .none⟩]) 4), #[]⟩
noncomputable def o93 (P : Params) : Obj := ⟨(.type "type"), none, (.cls { name := "IOBase", bases := [(.type "object")], mro := [(.ref 93), (.type "object")], ns := 92, qualname := "IOBase", hasDict := true, slotNames := [], subclasses := [(.ref 108), (.ref 120)], abstract := false, collection := none, hasDel := false }), #[none, none, (some (.str "IOBase" 411)), (some (.str "IOBase" 419)), (some .none), (some (.bool true))]⟩
noncomputable def o94 (P : Params) : Obj := ⟨(.type "staticmethod"), none, (.fields #[(.ref 90)]), #[]⟩
noncomputable def o119 (P : Params) : Obj := ⟨(.type "dict"), none, (.dict (List.toArray [⟨PyData.keyHash P "__module__", .str "__module__" 468, (.str "io" 473)⟩, ⟨PyData.keyHash P "__firstlineno__", .str "__firstlineno__" 472, (.int (31) 471)⟩, ⟨PyData.keyHash P "__static_attributes__", .str "__static_attributes__" 475, (.ref 118)⟩, ⟨PyData.keyHash P "__doc__", .str "__doc__" 476, .none⟩]) 2), #[]⟩
noncomputable def o120 (P : Params) : Obj := ⟨(.type "type"), none, (.cls { name := "TextIOBase", bases := [(.ref 93)], mro := [(.ref 120), (.ref 93), (.type "object")], ns := 119, qualname := "TextIOBase", hasDict := true, slotNames := [], subclasses := [(.ref 597)], abstract := false, collection := none, hasDel := false }), #[(some (.ref 111)), none, (some (.str "TextIOBase" 461)), (some (.str "TextIOBase" 469)), (some .none), (some (.bool true))]⟩
noncomputable def o350 (P : Params) : Obj := ⟨(.type "type"), none, (.cls { name := "BytesIO", bases := [(.ref 108)], mro := [(.ref 350), (.ref 108), (.ref 93), (.type "object")], ns := 349, qualname := "BytesIO", hasDict := true, slotNames := [], subclasses := [], abstract := false, collection := none, hasDel := false }), #[(some (.ref 123)), none, (some (.str "BytesIO" 479)), (some (.str "BytesIO" 487)), (some .none), (some (.bool true))]⟩
noncomputable def o360 (P : Params) : Obj := ⟨(.type "tuple"), none, (.seq #[(.str "" 755), (.str "\n" 756)] 0), #[]⟩
noncomputable def o366 (P : Params) : Obj := ⟨(.type "code"), none, (.fields #[(.str "__init__" 757), (.str "StringIO.__init__" 758), (.str "/claim/cut.py" 759), (.int (206) 0), (.int (3) 0), (.int (0) 0), (.int (0) 0), (.int (3) 0), (.ref 361), (.bool true), (.int (318) 0), (.ref 362), .none, (.ref 363), (.ref 364), (.ref 365), (.int (763) 0), (.int (206) 0), (.str "/claim/cut.py" 764)]), #[]⟩
noncomputable def o367 (P : Params) : Obj := ⟨(.type "function"), none, (.func (fnOf "__init__" "StringIO.__init__" (fArgs (stAt 1 (clsBody (stAt 12 Challenge.pw_mq0411_01.main.body)))) (fBody (stAt 1 (clsBody (stAt 12 Challenge.pw_mq0411_01.main.body)))) (fScope (stAt 1 (clsBody (stAt 12 Challenge.pw_mq0411_01.main.body)))) (.ref 360) .none .none (.str "io" 371) none (.ref 366) .none)), #[]⟩
noncomputable def o373 (P : Params) : Obj := ⟨(.type "code"), none, (.fields #[(.str "__translated" 766), (.str "StringIO.__translated" 767), (.str "/claim/cut.py" 768), (.int (219) 0), (.int (2) 0), (.int (0) 0), (.int (0) 0), (.int (3) 0), (.ref 368), (.bool true), (.int (318) 0), (.ref 369), .none, (.ref 370), (.ref 371), (.ref 372), (.int (772) 0), (.int (219) 0), (.str "/claim/cut.py" 773)]), #[]⟩
noncomputable def o374 (P : Params) : Obj := ⟨(.type "function"), none, (.func (fnOf "__translated" "StringIO.__translated" (fArgs (stAt 2 (clsBody (stAt 12 Challenge.pw_mq0411_01.main.body)))) (fBody (stAt 2 (clsBody (stAt 12 Challenge.pw_mq0411_01.main.body)))) (fScope (stAt 2 (clsBody (stAt 12 Challenge.pw_mq0411_01.main.body)))) .none .none .none (.str "io" 371) none (.ref 373) .none)), #[]⟩
noncomputable def o380 (P : Params) : Obj := ⟨(.type "code"), none, (.fields #[(.str "__check" 775), (.str "StringIO.__check" 776), (.str "/claim/cut.py" 777), (.int (227) 0), (.int (1) 0), (.int (0) 0), (.int (0) 0), (.int (3) 0), (.ref 375), (.bool true), (.int (318) 0), (.ref 376), .none, (.ref 377), (.ref 378), (.ref 379), (.int (779) 0), (.int (227) 0), (.str "/claim/cut.py" 780)]), #[]⟩
noncomputable def o381 (P : Params) : Obj := ⟨(.type "function"), none, (.func (fnOf "__check" "StringIO.__check" (fArgs (stAt 3 (clsBody (stAt 12 Challenge.pw_mq0411_01.main.body)))) (fBody (stAt 3 (clsBody (stAt 12 Challenge.pw_mq0411_01.main.body)))) (fScope (stAt 3 (clsBody (stAt 12 Challenge.pw_mq0411_01.main.body)))) .none .none .none (.str "io" 371) none (.ref 380) .none)), #[]⟩
noncomputable def o536 (P : Params) : Obj := ⟨(.type "tuple"), none, (.seq #[(.int (-1) 948)] 0), #[]⟩
noncomputable def o542 (P : Params) : Obj := ⟨(.type "code"), none, (.fields #[(.str "read" 949), (.str "StringIO.read" 950), (.str "/claim/cut.py" 951), (.int (349) 0), (.int (2) 0), (.int (2) 0), (.int (0) 0), (.int (3) 0), (.ref 537), (.bool true), (.int (318) 0), (.ref 538), .none, (.ref 539), (.ref 540), (.ref 541), (.int (956) 0), (.int (349) 0), (.str "/claim/cut.py" 957)]), #[]⟩
noncomputable def o543 (P : Params) : Obj := ⟨(.type "function"), none, (.func (fnOf "read" "StringIO.read" (fArgs (stAt 25 (clsBody (stAt 12 Challenge.pw_mq0411_01.main.body)))) (fBody (stAt 25 (clsBody (stAt 12 Challenge.pw_mq0411_01.main.body)))) (fScope (stAt 25 (clsBody (stAt 12 Challenge.pw_mq0411_01.main.body)))) (.ref 536) .none .none (.str "io" 371) none (.ref 542) .none)), #[]⟩
noncomputable def o565 (P : Params) : Obj := ⟨(.type "code"), none, (.fields #[(.str "__iter__" 979), (.str "StringIO.__iter__" 980), (.str "/claim/cut.py" 981), (.int (373) 0), (.int (1) 0), (.int (0) 0), (.int (0) 0), (.int (3) 0), (.ref 560), (.bool true), (.int (318) 0), (.ref 561), .none, (.ref 562), (.ref 563), (.ref 564), (.int (983) 0), (.int (373) 0), (.str "/claim/cut.py" 984)]), #[]⟩
noncomputable def o566 (P : Params) : Obj := ⟨(.type "function"), none, (.func (fnOf "__iter__" "StringIO.__iter__" (fArgs (stAt 28 (clsBody (stAt 12 Challenge.pw_mq0411_01.main.body)))) (fBody (stAt 28 (clsBody (stAt 12 Challenge.pw_mq0411_01.main.body)))) (fScope (stAt 28 (clsBody (stAt 12 Challenge.pw_mq0411_01.main.body)))) .none .none .none (.str "io" 371) none (.ref 565) .none)), #[]⟩
noncomputable def o572 (P : Params) : Obj := ⟨(.type "code"), none, (.fields #[(.str "__next__" 986), (.str "StringIO.__next__" 987), (.str "/claim/cut.py" 988), (.int (377) 0), (.int (1) 0), (.int (0) 0), (.int (0) 0), (.int (3) 0), (.ref 567), (.bool true), (.int (318) 0), (.ref 568), .none, (.ref 569), (.ref 570), (.ref 571), (.int (991) 0), (.int (377) 0), (.str "/claim/cut.py" 992)]), #[]⟩
noncomputable def o573 (P : Params) : Obj := ⟨(.type "function"), none, (.func (fnOf "__next__" "StringIO.__next__" (fArgs (stAt 29 (clsBody (stAt 12 Challenge.pw_mq0411_01.main.body)))) (fBody (stAt 29 (clsBody (stAt 12 Challenge.pw_mq0411_01.main.body)))) (fScope (stAt 29 (clsBody (stAt 12 Challenge.pw_mq0411_01.main.body)))) .none .none .none (.str "io" 371) none (.ref 572) .none)), #[]⟩
noncomputable def o596 (P : Params) : Obj := ⟨(.type "dict"), none, (.dict (List.toArray [⟨PyData.keyHash P "__module__", .str "__module__" 748, (.str "_io" 753)⟩, ⟨PyData.keyHash P "__firstlineno__", .str "__firstlineno__" 752, (.int (203) 751)⟩, ⟨PyData.keyHash P "__init__", .str "__init__" 765, (.ref 367)⟩, ⟨PyData.keyHash P "_StringIO__translated", .str "_StringIO__translated" 774, (.ref 374)⟩, ⟨PyData.keyHash P "_StringIO__check", .str "_StringIO__check" 781, (.ref 381)⟩, ⟨PyData.keyHash P "_StringIO__check_dot", .str "_StringIO__check_dot" 788, (.ref 388)⟩, ⟨PyData.keyHash P "_StringIO__line", .str "_StringIO__line" 803, (.ref 395)⟩, ⟨PyData.keyHash P "closed", .str "closed" 811, (.ref 403)⟩, ⟨PyData.keyHash P "line_buffering", .str "line_buffering" 819, (.ref 411)⟩, ⟨PyData.keyHash P "newlines", .str "newlines" 827, (.ref 419)⟩, ⟨PyData.keyHash P "encoding", .str "encoding" 835, (.ref 427)⟩, ⟨PyData.keyHash P "errors", .str "errors" 843, (.ref 435)⟩, ⟨PyData.keyHash P "close", .str "close" 850, (.ref 442)⟩, ⟨PyData.keyHash P "__enter__", .str "__enter__" 857, (.ref 449)⟩, ⟨PyData.keyHash P "__exit__", .str "__exit__" 865, (.ref 456)⟩, ⟨PyData.keyHash P "readable", .str "readable" 872, (.ref 463)⟩, ⟨PyData.keyHash P "writable", .str "writable" 879, (.ref 470)⟩, ⟨PyData.keyHash P "seekable", .str "seekable" 886, (.ref 477)⟩, ⟨PyData.keyHash P "isatty", .str "isatty" 893, (.ref 484)⟩, ⟨PyData.keyHash P "flush", .str "flush" 900, (.ref 491)⟩, ⟨PyData.keyHash P "fileno", .str "fileno" 907, (.ref 498)⟩, ⟨PyData.keyHash P "detach", .str "detach" 914, (.ref 505)⟩, ⟨PyData.keyHash P "getvalue", .str "getvalue" 921, (.ref 512)⟩, ⟨PyData.keyHash P "tell", .str "tell" 928, (.ref 519)⟩, ⟨PyData.keyHash P "seek", .str "seek" 938, (.ref 527)⟩, ⟨PyData.keyHash P "truncate", .str "truncate" 946, (.ref 535)⟩, ⟨PyData.keyHash P "read", .str "read" 958, (.ref 543)⟩, ⟨PyData.keyHash P "readline", .str "readline" 968, (.ref 551)⟩, ⟨PyData.keyHash P "readlines", .str "readlines" 978, (.ref 559)⟩, ⟨PyData.keyHash P "__iter__", .str "__iter__" 985, (.ref 566)⟩, ⟨PyData.keyHash P "__next__", .str "__next__" 993, (.ref 573)⟩, ⟨PyData.keyHash P "write", .str "write" 1005, (.ref 580)⟩, ⟨PyData.keyHash P "writelines", .str "writelines" 1013, (.ref 587)⟩, ⟨PyData.keyHash P "__repr__", .str "__repr__" 1020, (.ref 594)⟩, ⟨PyData.keyHash P "__static_attributes__", .str "__static_attributes__" 1024, (.ref 595)⟩, ⟨PyData.keyHash P "__doc__", .str "__doc__" 1025, .none⟩]) 2), #[]⟩
noncomputable def o597 (P : Params) : Obj := ⟨(.type "type"), none, (.cls { name := "StringIO", bases := [(.ref 120)], mro := [(.ref 597), (.ref 120), (.ref 93), (.type "object")], ns := 596, qualname := "StringIO", hasDict := true, slotNames := [], subclasses := [], abstract := false, collection := none, hasDel := false }), #[(some (.ref 353)), none, (some (.str "StringIO" 741)), (some (.str "StringIO" 749)), (some .none), (some (.bool true))]⟩
noncomputable def o649 (P : Params) : Obj := ⟨(.type "tuple"), none, (.seq #[.none, .none, (.bool false), (.bool false)] 0), #[]⟩
noncomputable def o655 (P : Params) : Obj := ⟨(.type "code"), none, (.fields #[(.str "__init__" 1101), (.str "shlex.__init__" 1102), (.str "/claim/cut.py" 1103), (.int (475) 0), (.int (5) 0), (.int (0) 0), (.int (0) 0), (.int (3) 0), (.ref 650), (.bool true), (.int (318) 0), (.ref 651), .none, (.ref 652), (.ref 653), (.ref 654), (.int (1110) 0), (.int (475) 0), (.str "/claim/cut.py" 1111)]), #[]⟩
noncomputable def o656 (P : Params) : Obj := ⟨(.type "function"), none, (.func (fnOf "__init__" "shlex.__init__" (fArgs (stAt 0 (clsBody (stAt 22 Challenge.pw_mq0411_01.main.body)))) (fBody (stAt 0 (clsBody (stAt 22 Challenge.pw_mq0411_01.main.body)))) (fScope (stAt 0 (clsBody (stAt 22 Challenge.pw_mq0411_01.main.body)))) (.ref 649) .none .none (.str "cpy313.shlex" 1087) none (.ref 655) .none)), #[]⟩
noncomputable def o662 (P : Params) : Obj := ⟨(.type "code"), none, (.fields #[(.str "punctuation_chars" 1113), (.str "shlex.punctuation_chars" 1114), (.str "/claim/cut.py" 1115), (.int (516) 0), (.int (1) 0), (.int (0) 0), (.int (0) 0), (.int (3) 0), (.ref 657), (.bool true), (.int (318) 0), (.ref 658), .none, (.ref 659), (.ref 660), (.ref 661), (.int (1117) 0), (.int (516) 0), (.str "/claim/cut.py" 1118)]), #[]⟩
noncomputable def o663 (P : Params) : Obj := ⟨(.type "function"), none, (.func (fnOf "punctuation_chars" "shlex.punctuation_chars" (fArgs (stAt 1 (clsBody (stAt 22 Challenge.pw_mq0411_01.main.body)))) (fBody (stAt 1 (clsBody (stAt 22 Challenge.pw_mq0411_01.main.body)))) (fScope (stAt 1 (clsBody (stAt 22 Challenge.pw_mq0411_01.main.body)))) .none .none .none (.str "cpy313.shlex" 1087) none (.ref 662) .none)), #[]⟩
noncomputable def o664 (P : Params) : Obj := ⟨(.type "property"), none, (.fields #[(.ref 663), .none, .none, .none, (.str "punctuation_chars" 1120), (.bool false)]), #[]⟩
noncomputable def o692 (P : Params) : Obj := ⟨(.type "code"), none, (.fields #[(.str "get_token" 1145), (.str "shlex.get_token" 1146), (.str "/claim/cut.py" 1147), (.int (543) 0), (.int (1) 0), (.int (0) 0), (.int (0) 0), (.int (3) 0), (.ref 687), (.bool true), (.int (318) 0), (.ref 688), .none, (.ref 689), (.ref 690), (.ref 691), (.int (1154) 0), (.int (543) 0), (.str "/claim/cut.py" 1155)]), #[]⟩
noncomputable def o693 (P : Params) : Obj := ⟨(.type "function"), none, (.func (fnOf "get_token" "shlex.get_token" (fArgs (stAt 5 (clsBody (stAt 22 Challenge.pw_mq0411_01.main.body)))) (fBody (stAt 5 (clsBody (stAt 22 Challenge.pw_mq0411_01.main.body)))) (fScope (stAt 5 (clsBody (stAt 22 Challenge.pw_mq0411_01.main.body)))) .none .none .none (.str "cpy313.shlex" 1087) none (.ref 692) .none)), #[]⟩
noncomputable def o699 (P : Params) : Obj := ⟨(.type "code"), none, (.fields #[(.str "read_token" 1157), (.str "shlex.read_token" 1158), (.str "/claim/cut.py" 1159), (.int (570) 0), (.int (1) 0), (.int (0) 0), (.int (0) 0), (.int (3) 0), (.ref 694), (.bool true), (.int (318) 0), (.ref 695), .none, (.ref 696), (.ref 697), (.ref 698), (.int (1165) 0), (.int (570) 0), (.str "/claim/cut.py" 1166)]), #[]⟩
noncomputable def o700 (P : Params) : Obj := ⟨(.type "function"), none, (.func (fnOf "read_token" "shlex.read_token" (fArgs (stAt 6 (clsBody (stAt 22 Challenge.pw_mq0411_01.main.body)))) (fBody (stAt 6 (clsBody (stAt 22 Challenge.pw_mq0411_01.main.body)))) (fScope (stAt 6 (clsBody (stAt 22 Challenge.pw_mq0411_01.main.body)))) .none .none .none (.str "cpy313.shlex" 1087) none (.ref 699) .none)), #[]⟩
noncomputable def o721 (P : Params) : Obj := ⟨(.type "code"), none, (.fields #[(.str "__iter__" 1185), (.str "shlex.__iter__" 1186), (.str "/claim/cut.py" 1187), (.int (717) 0), (.int (1) 0), (.int (0) 0), (.int (0) 0), (.int (3) 0), (.ref 716), (.bool true), (.int (318) 0), (.ref 717), .none, (.ref 718), (.ref 719), (.ref 720), (.int (1189) 0), (.int (717) 0), (.str "/claim/cut.py" 1190)]), #[]⟩
noncomputable def o722 (P : Params) : Obj := ⟨(.type "function"), none, (.func (fnOf "__iter__" "shlex.__iter__" (fArgs (stAt 9 (clsBody (stAt 22 Challenge.pw_mq0411_01.main.body)))) (fBody (stAt 9 (clsBody (stAt 22 Challenge.pw_mq0411_01.main.body)))) (fScope (stAt 9 (clsBody (stAt 22 Challenge.pw_mq0411_01.main.body)))) .none .none .none (.str "cpy313.shlex" 1087) none (.ref 721) .none)), #[]⟩
noncomputable def o728 (P : Params) : Obj := ⟨(.type "code"), none, (.fields #[(.str "__next__" 1192), (.str "shlex.__next__" 1193), (.str "/claim/cut.py" 1194), (.int (720) 0), (.int (1) 0), (.int (0) 0), (.int (0) 0), (.int (3) 0), (.ref 723), (.bool true), (.int (318) 0), (.ref 724), .none, (.ref 725), (.ref 726), (.ref 727), (.int (1197) 0), (.int (720) 0), (.str "/claim/cut.py" 1198)]), #[]⟩
noncomputable def o729 (P : Params) : Obj := ⟨(.type "function"), none, (.func (fnOf "__next__" "shlex.__next__" (fArgs (stAt 10 (clsBody (stAt 22 Challenge.pw_mq0411_01.main.body)))) (fBody (stAt 10 (clsBody (stAt 22 Challenge.pw_mq0411_01.main.body)))) (fScope (stAt 10 (clsBody (stAt 22 Challenge.pw_mq0411_01.main.body)))) .none .none .none (.str "cpy313.shlex" 1087) none (.ref 728) .none)), #[]⟩
noncomputable def o731 (P : Params) : Obj := ⟨(.type "dict"), none, (.dict (List.toArray [⟨PyData.keyHash P "__module__", .str "__module__" 1096, (.str "cpy313.shlex" 1087)⟩, ⟨PyData.keyHash P "__firstlineno__", .str "__firstlineno__" 1100, (.int (473) 1099)⟩, ⟨PyData.keyHash P "__init__", .str "__init__" 1112, (.ref 656)⟩, ⟨PyData.keyHash P "punctuation_chars", .str "punctuation_chars" 1120, (.ref 664)⟩, ⟨PyData.keyHash P "push_token", .str "push_token" 1128, (.ref 671)⟩, ⟨PyData.keyHash P "push_source", .str "push_source" 1137, (.ref 679)⟩, ⟨PyData.keyHash P "pop_source", .str "pop_source" 1144, (.ref 686)⟩, ⟨PyData.keyHash P "get_token", .str "get_token" 1156, (.ref 693)⟩, ⟨PyData.keyHash P "read_token", .str "read_token" 1167, (.ref 700)⟩, ⟨PyData.keyHash P "sourcehook", .str "sourcehook" 1175, (.ref 707)⟩, ⟨PyData.keyHash P "error_leader", .str "error_leader" 1184, (.ref 715)⟩, ⟨PyData.keyHash P "__iter__", .str "__iter__" 1191, (.ref 722)⟩, ⟨PyData.keyHash P "__next__", .str "__next__" 1199, (.ref 729)⟩, ⟨PyData.keyHash P "__static_attributes__", .str "__static_attributes__" 1220, (.ref 730)⟩, ⟨PyData.keyHash P "__dict__", .str "__dict__" 1222, (.ref 733)⟩, ⟨PyData.keyHash P "__weakref__", .str "__weakref__" 1224, (.ref 734)⟩, ⟨PyData.keyHash P "__doc__", .str "__doc__" 1225, .none⟩]) 4), #[]⟩
noncomputable def o732 (P : Params) : Obj := ⟨(.type "type"), none, (.cls { name := "shlex", bases := [(.type "object")], mro := [(.ref 732), (.type "object")], ns := 731, qualname := "shlex", hasDict := true, slotNames := [], subclasses := [], abstract := false, collection := none, hasDel := false }), #[none, none, (some (.str "shlex" 1089)), (some (.str "shlex" 1097)), (some (.builtin "object.__new__")), (some (.bool true))]⟩
noncomputable def o737 (P : Params) : Obj := ⟨(.type "tuple"), none, (.seq #[(.bool false), (.bool true)] 0), #[]⟩
noncomputable def o743 (P : Params) : Obj := ⟨(.type "code"), none, (.fields #[(.str "split" 1228), (.str "split" 1229), (.str "/claim/cut.py" 1230), (.int (725) 0), (.int (3) 0), (.int (0) 0), (.int (0) 0), (.int (3) 0), (.ref 738), (.bool true), (.int (318) 0), (.ref 739), .none, (.ref 740), (.ref 741), (.ref 742), (.int (1235) 0), (.int (725) 0), (.str "/claim/cut.py" 1236)]), #[]⟩
noncomputable def o744 (P : Params) : Obj := ⟨(.type "function"), none, (.func (fnOf "split" "split" (fArgs (stAt 23 Challenge.pw_mq0411_01.main.body)) (fBody (stAt 23 Challenge.pw_mq0411_01.main.body)) (fScope (stAt 23 Challenge.pw_mq0411_01.main.body)) (.ref 737) .none .none (.str "cpy313.shlex" 1087) none (.ref 743) .none)), #[]⟩
noncomputable def o750 (P : Params) : Obj := ⟨(.type "code"), none, (.fields #[(.str "join" 1238), (.str "join" 1239), (.str "/claim/cut.py" 1240), (.int (733) 0), (.int (1) 0), (.int (0) 0), (.int (0) 0), (.int (3) 0), (.ref 745), (.bool true), (.int (318) 0), (.ref 746), .none, (.ref 747), (.ref 748), (.ref 749), (.int (1242) 0), (.int (733) 0), (.str "/claim/cut.py" 1243)]), #[]⟩
noncomputable def o751 (P : Params) : Obj := ⟨(.type "function"), none, (.func (fnOf "join" "join" (fArgs (stAt 24 Challenge.pw_mq0411_01.main.body)) (fBody (stAt 24 Challenge.pw_mq0411_01.main.body)) (fScope (stAt 24 Challenge.pw_mq0411_01.main.body)) .none .none .none (.str "cpy313.shlex" 1087) none (.ref 750) .none)), #[]⟩
noncomputable def o752 (P : Params) : Obj := ⟨(.type "builtin_function_or_method"), none, (.fields #[(.builtin "re.Pattern.search"), (.ref 49)]), #[]⟩
noncomputable def o758 (P : Params) : Obj := ⟨(.type "code"), none, (.fields #[(.str "quote" 1248), (.str "quote" 1249), (.str "/claim/cut.py" 1250), (.int (737) 0), (.int (1) 0), (.int (0) 0), (.int (0) 0), (.int (3) 0), (.ref 753), (.bool true), (.int (318) 0), (.ref 754), .none, (.ref 755), (.ref 756), (.ref 757), (.int (1252) 0), (.int (737) 0), (.str "/claim/cut.py" 1253)]), #[]⟩
noncomputable def o759 (P : Params) : Obj := ⟨(.type "function"), none, (.func (fnOf "quote" "quote" (fArgs (stAt 27 Challenge.pw_mq0411_01.main.body)) (fBody (stAt 27 Challenge.pw_mq0411_01.main.body)) (fScope (stAt 27 Challenge.pw_mq0411_01.main.body)) .none .none .none (.str "cpy313.shlex" 1087) none (.ref 758) .none)), #[]⟩
noncomputable def o765 (P : Params) : Obj := ⟨(.type "code"), none, (.fields #[(.str "parse_keqv_list" 1257), (.str "parse_keqv_list" 1258), (.str "/claim/cut.py" 1259), (.int (744) 0), (.int (1) 0), (.int (0) 0), (.int (0) 0), (.int (3) 0), (.ref 760), (.bool true), (.int (318) 0), (.ref 761), .none, (.ref 762), (.ref 763), (.ref 764), (.int (1265) 0), (.int (744) 0), (.str "/claim/cut.py" 1266)]), #[]⟩
noncomputable def o766 (P : Params) : Obj := ⟨(.type "function"), none, (.func (fnOf "parse_keqv_list" "parse_keqv_list" (fArgs (stAt 29 Challenge.pw_mq0411_01.main.body)) (fBody (stAt 29 Challenge.pw_mq0411_01.main.body)) (fScope (stAt 29 Challenge.pw_mq0411_01.main.body)) .none .none .none (.str "cpy313.urllib.request" 1255) none (.ref 765) .none)), #[]⟩
noncomputable def o770 (P : Params) : Obj := ⟨(.type "code"), none, (.fields #[(.str "parse_http_list" 1268), (.str "parse_http_list" 1269), (.str "/claim/cut.py" 1270), (.int (752) 0), (.int (1) 0), (.int (0) 0), (.int (0) 0), (.int (3) 0), (.ref 767), (.bool true), (.int (318) 0), (.ref 768), .none, .none, .none, (.ref 769), (.int (1271) 0), (.int (752) 0), (.str "/claim/cut.py" 1272)]), #[]⟩
noncomputable def o771 (P : Params) : Obj := ⟨(.type "function"), none, (.func (fnOf "parse_http_list" "parse_http_list" (fArgs (stAt 30 Challenge.pw_mq0411_01.main.body)) (fBody (stAt 30 Challenge.pw_mq0411_01.main.body)) (fScope (stAt 30 Challenge.pw_mq0411_01.main.body)) .none .none .none (.str "cpy313.urllib.request" 1255) none (.ref 770) .none)), #[]⟩
noncomputable def o777 (P : Params) : Obj := ⟨(.type "code"), none, (.fields #[(.str "_law_text" 1276), (.str "_law_text" 1277), (.str "/claim/cut.py" 1278), (.int (780) 0), (.int (1) 0), (.int (0) 0), (.int (0) 0), (.int (3) 0), (.ref 772), (.bool true), (.int (318) 0), (.ref 773), .none, (.ref 774), (.ref 775), (.ref 776), (.int (1283) 0), (.int (780) 0), (.str "/claim/cut.py" 1284)]), #[]⟩
noncomputable def o778 (P : Params) : Obj := ⟨(.type "function"), none, (.func (fnOf "_law_text" "_law_text" (fArgs (stAt 32 Challenge.pw_mq0411_01.main.body)) (fBody (stAt 32 Challenge.pw_mq0411_01.main.body)) (fScope (stAt 32 Challenge.pw_mq0411_01.main.body)) .none .none .none (.str "law_mq0411_01" 1274) none (.ref 777) .none)), #[]⟩
noncomputable def o784 (P : Params) : Obj := ⟨(.type "code"), none, (.fields #[(.str "_law_tree" 1286), (.str "_law_tree" 1287), (.str "/claim/cut.py" 1288), (.int (788) 0), (.int (1) 0), (.int (0) 0), (.int (0) 0), (.int (3) 0), (.ref 779), (.bool true), (.int (318) 0), (.ref 780), .none, (.ref 781), (.ref 782), (.ref 783), (.int (1295) 0), (.int (788) 0), (.str "/claim/cut.py" 1296)]), #[]⟩
noncomputable def o785 (P : Params) : Obj := ⟨(.type "function"), none, (.func (fnOf "_law_tree" "_law_tree" (fArgs (stAt 33 Challenge.pw_mq0411_01.main.body)) (fBody (stAt 33 Challenge.pw_mq0411_01.main.body)) (fScope (stAt 33 Challenge.pw_mq0411_01.main.body)) .none .none .none (.str "law_mq0411_01" 1274) none (.ref 784) .none)), #[]⟩
noncomputable def o789 (P : Params) : Obj := ⟨(.type "code"), none, (.fields #[(.str "_law_marked" 1298), (.str "_law_marked" 1299), (.str "/claim/cut.py" 1300), (.int (802) 0), (.int (1) 0), (.int (0) 0), (.int (0) 0), (.int (3) 0), (.ref 786), (.bool true), (.int (318) 0), (.ref 787), .none, .none, .none, (.ref 788), (.int (1301) 0), (.int (802) 0), (.str "/claim/cut.py" 1302)]), #[]⟩
noncomputable def o790 (P : Params) : Obj := ⟨(.type "function"), none, (.func (fnOf "_law_marked" "_law_marked" (fArgs (stAt 34 Challenge.pw_mq0411_01.main.body)) (fBody (stAt 34 Challenge.pw_mq0411_01.main.body)) (fScope (stAt 34 Challenge.pw_mq0411_01.main.body)) .none .none .none (.str "law_mq0411_01" 1274) none (.ref 789) .none)), #[]⟩
noncomputable def o794 (P : Params) : Obj := ⟨(.type "code"), none, (.fields #[(.str "_law_written" 1304), (.str "_law_written" 1305), (.str "/claim/cut.py" 1306), (.int (804) 0), (.int (2) 0), (.int (0) 0), (.int (0) 0), (.int (3) 0), (.ref 791), (.bool true), (.int (318) 0), (.ref 792), .none, .none, .none, (.ref 793), (.int (1307) 0), (.int (804) 0), (.str "/claim/cut.py" 1308)]), #[]⟩
noncomputable def o795 (P : Params) : Obj := ⟨(.type "function"), none, (.func (fnOf "_law_written" "_law_written" (fArgs (stAt 35 Challenge.pw_mq0411_01.main.body)) (fBody (stAt 35 Challenge.pw_mq0411_01.main.body)) (fScope (stAt 35 Challenge.pw_mq0411_01.main.body)) .none .none .none (.str "law_mq0411_01" 1274) none (.ref 794) .none)), #[]⟩
noncomputable def o799 (P : Params) : Obj := ⟨(.type "code"), none, (.fields #[(.str "_law_word" 1310), (.str "_law_word" 1311), (.str "/claim/cut.py" 1312), (.int (820) 0), (.int (1) 0), (.int (0) 0), (.int (0) 0), (.int (3) 0), (.ref 796), (.bool true), (.int (318) 0), (.ref 797), .none, .none, .none, (.ref 798), (.int (1313) 0), (.int (820) 0), (.str "/claim/cut.py" 1314)]), #[]⟩
noncomputable def o800 (P : Params) : Obj := ⟨(.type "function"), none, (.func (fnOf "_law_word" "_law_word" (fArgs (stAt 36 Challenge.pw_mq0411_01.main.body)) (fBody (stAt 36 Challenge.pw_mq0411_01.main.body)) (fScope (stAt 36 Challenge.pw_mq0411_01.main.body)) .none .none .none (.str "law_mq0411_01" 1274) none (.ref 799) .none)), #[]⟩
noncomputable def o804 (P : Params) : Obj := ⟨(.type "code"), none, (.fields #[(.str "_law_read" 1316), (.str "_law_read" 1317), (.str "/claim/cut.py" 1318), (.int (825) 0), (.int (2) 0), (.int (0) 0), (.int (0) 0), (.int (3) 0), (.ref 801), (.bool true), (.int (318) 0), (.ref 802), .none, .none, .none, (.ref 803), (.int (1319) 0), (.int (825) 0), (.str "/claim/cut.py" 1320)]), #[]⟩
noncomputable def o805 (P : Params) : Obj := ⟨(.type "function"), none, (.func (fnOf "_law_read" "_law_read" (fArgs (stAt 37 Challenge.pw_mq0411_01.main.body)) (fBody (stAt 37 Challenge.pw_mq0411_01.main.body)) (fScope (stAt 37 Challenge.pw_mq0411_01.main.body)) .none .none .none (.str "law_mq0411_01" 1274) none (.ref 804) .none)), #[]⟩
noncomputable def o809 (P : Params) : Obj := ⟨(.type "code"), none, (.fields #[(.str "law" 1322), (.str "law" 1323), (.str "/claim/cut.py" 1324), (.int (839) 0), (.int (1) 0), (.int (0) 0), (.int (0) 0), (.int (3) 0), (.ref 806), (.bool true), (.int (318) 0), (.ref 807), .none, .none, .none, (.ref 808), (.int (1325) 0), (.int (839) 0), (.str "/claim/cut.py" 1326)]), #[]⟩
noncomputable def o810 (P : Params) : Obj := ⟨(.type "function"), none, (.func (fnOf "law" "law" (fArgs (stAt 38 Challenge.pw_mq0411_01.main.body)) (fBody (stAt 38 Challenge.pw_mq0411_01.main.body)) (fScope (stAt 38 Challenge.pw_mq0411_01.main.body)) .none .none .none (.str "law_mq0411_01" 1274) none (.ref 809) .none)), #[]⟩
noncomputable def KK (P : Params) : Frag := [(nat_lit 3, o3 P), (nat_lit 4, o4 P), (nat_lit 48, o48 P), (nat_lit 49, o49 P), (nat_lit 62, o62 P), (nat_lit 63, o63 P), (nat_lit 89, o89 P), (nat_lit 90, o90 P), (nat_lit 92, o92 P), (nat_lit 93, o93 P), (nat_lit 94, o94 P), (nat_lit 119, o119 P), (nat_lit 120, o120 P), (nat_lit 350, o350 P), (nat_lit 360, o360 P), (nat_lit 366, o366 P), (nat_lit 367, o367 P), (nat_lit 373, o373 P), (nat_lit 374, o374 P), (nat_lit 380, o380 P), (nat_lit 381, o381 P), (nat_lit 536, o536 P), (nat_lit 542, o542 P), (nat_lit 543, o543 P), (nat_lit 565, o565 P), (nat_lit 566, o566 P), (nat_lit 572, o572 P), (nat_lit 573, o573 P), (nat_lit 596, o596 P), (nat_lit 597, o597 P), (nat_lit 649, o649 P), (nat_lit 655, o655 P), (nat_lit 656, o656 P), (nat_lit 662, o662 P), (nat_lit 663, o663 P), (nat_lit 664, o664 P), (nat_lit 692, o692 P), (nat_lit 693, o693 P), (nat_lit 699, o699 P), (nat_lit 700, o700 P), (nat_lit 721, o721 P), (nat_lit 722, o722 P), (nat_lit 728, o728 P), (nat_lit 729, o729 P), (nat_lit 731, o731 P), (nat_lit 732, o732 P), (nat_lit 737, o737 P), (nat_lit 743, o743 P), (nat_lit 744, o744 P), (nat_lit 750, o750 P), (nat_lit 751, o751 P), (nat_lit 752, o752 P), (nat_lit 758, o758 P), (nat_lit 759, o759 P), (nat_lit 765, o765 P), (nat_lit 766, o766 P), (nat_lit 770, o770 P), (nat_lit 771, o771 P), (nat_lit 777, o777 P), (nat_lit 778, o778 P), (nat_lit 784, o784 P), (nat_lit 785, o785 P), (nat_lit 789, o789 P), (nat_lit 790, o790 P), (nat_lit 794, o794 P), (nat_lit 795, o795 P), (nat_lit 799, o799 P), (nat_lit 800, o800 P), (nat_lit 804, o804 P), (nat_lit 805, o805 P), (nat_lit 809, o809 P), (nat_lit 810, o810 P)]
noncomputable def B01 : List Stmt := Challenge.pw_mq0411_01.main.body
noncomputable def s63 : Stmt := stAt 6 B01
noncomputable def s90 : Stmt := stAt 1 (clsBody (stAt 8 B01))
noncomputable def s367 : Stmt := stAt 1 (clsBody (stAt 12 B01))
noncomputable def s374 : Stmt := stAt 2 (clsBody (stAt 12 B01))
noncomputable def s381 : Stmt := stAt 3 (clsBody (stAt 12 B01))
noncomputable def s543 : Stmt := stAt 25 (clsBody (stAt 12 B01))
noncomputable def s656 : Stmt := stAt 0 (clsBody (stAt 22 B01))
noncomputable def s663 : Stmt := stAt 1 (clsBody (stAt 22 B01))
noncomputable def f63 : FnE := ⟨63, 2, ["n", "what"], [], fBody s63, fScope s63, "_index", .ref 62, []⟩
noncomputable def f381 : FnE := ⟨381, 1, ["self"], [], fBody s381, fScope s381, "StringIO.__check", .ref 380, []⟩
noncomputable def f543 : FnE := ⟨543, 2, ["self", "size"], [], fBody s543, fScope s543, "StringIO.read", .ref 542, []⟩
theorem fok381 (P : Params) : FnOk (KK P) f381 := FnOk.of (by kernel_rfl) (by kernel_rfl) ⟨_, _, _, _, (by kernel_rfl : (KK P).lookup 381 = some (o381 P)), rfl, rfl, fun _ _ => rfl, rfl, rfl, fun s vs X h => by
 obtain ⟨a, rfl⟩ := len1 h
 exact BindsTo.of_eq (by kernel_rfl)⟩
noncomputable def f663 : FnE := ⟨663, 1, ["self"], [], fBody s663, fScope s663, "shlex.punctuation_chars", .ref 662, []⟩
theorem fok663 (P : Params) : FnOk (KK P) f663 := FnOk.of (by kernel_rfl) (by kernel_rfl) ⟨_, _, _, _, (by kernel_rfl : (KK P).lookup 663 = some (o663 P)), rfl, rfl, fun _ _ => rfl, rfl, rfl, fun s vs X h => by
 obtain ⟨a, rfl⟩ := len1 h
 exact BindsTo.of_eq (by kernel_rfl)⟩
theorem fok63 (P : Params) : FnOk (KK P) f63 := FnOk.of (by kernel_rfl) (by kernel_rfl) ⟨_, _, _, _, (by kernel_rfl : (KK P).lookup 63 = some (o63 P)), rfl, rfl, fun _ _ => rfl, rfl, rfl, fun s vs X h => by
 obtain ⟨a, b, rfl⟩ := len2 h
 exact BindsTo.of_eq (by kernel_rfl)⟩
theorem fok543 (P : Params) : FnOk (KK P) f543 := FnOk.of (by kernel_rfl) (by kernel_rfl) ⟨_, _, _, _, (by kernel_rfl : (KK P).lookup 543 = some (o543 P)), rfl, rfl, fun _ _ => rfl, rfl, rfl, fun s vs X h => by
 obtain ⟨a, b, rfl⟩ := len2 h
 exact binds_K (K := KK P) X rfl (by kernel_rfl : (KK P).lookup 536 = some (o536 P)) rfl (by rfl) (by kernel_rfl)⟩
noncomputable def c597 : ClsE := ⟨597, ["_StringIO__buf", "_StringIO__pos", "_StringIO__newline"], [("_StringIO__check", 381), ("_StringIO__translated", 374), ("read", 543)], []⟩
theorem cok597 (P : Params) : ClsOk (KK P) c597 := ClsOk.of (by kernel_rfl)
noncomputable def c732 : ClsE := ⟨732, ["instream", "infile", "posix", "eof", "commenters", "wordchars", "whitespace", "whitespace_split", "quotes", "escape", "escapedquotes", "state", "pushback", "lineno", "debug", "token", "filestack", "source", "_punctuation_chars"], [("get_token", 693), ("read_token", 700)], [("punctuation_chars", 664, 663)]⟩
theorem cok732 (P : Params) : ClsOk (KK P) c732 := ClsOk.of (by kernel_rfl)
noncomputable def g01 : List (Str × Value) := [("_index", .ref 63), ("len", .builtin "len"), ("type", .type "type"), ("int", .type "int"), ("bool", .type "bool"), ("deque", .type "collections.deque"), ("isinstance", .builtin "isinstance"), ("str", .type "str")]
theorem gok01 (P : Params) : ∀ p ∈ g01, GlobAt (KK P) p :=
 mem_cons' ⟨by kernel_rfl, .inl (by kernel_rfl)⟩ <| mem_cons' ⟨by kernel_rfl, .inr ⟨by kernel_rfl, by kernel_rfl, by kernel_rfl⟩⟩ <| mem_cons' ⟨by kernel_rfl, .inr ⟨by kernel_rfl, by kernel_rfl, by kernel_rfl⟩⟩ <|
 mem_cons' ⟨by kernel_rfl, .inr ⟨by kernel_rfl, by kernel_rfl, by kernel_rfl⟩⟩ <| mem_cons' ⟨by kernel_rfl, .inr ⟨by kernel_rfl, by kernel_rfl, by kernel_rfl⟩⟩ <| mem_cons' ⟨by kernel_rfl, .inl (by kernel_rfl)⟩ <|
 mem_cons' ⟨by kernel_rfl, .inr ⟨by kernel_rfl, by kernel_rfl, by kernel_rfl⟩⟩ <| mem_cons' ⟨by kernel_rfl, .inr ⟨by kernel_rfl, by kernel_rfl, by kernel_rfl⟩⟩ <| mem_nil
noncomputable abbrev sio (b : Str) (p : Int) : SO := .inst 597 [("_StringIO__newline", .str "\n"), ("_StringIO__buf", .str b), ("_StringIO__pos", .int p)]
noncomputable def cf0 (P : Params) : Cf where
 K := KK P
 globs := g01
 fns := [f63, f381, f543, f663]
 cls := [c597, c732]
theorem cok0 (w : World) : CfOk w (cf0 w.params) where
 fns := mem_cons' ⟨fok63 _, by kernel_rfl, noCell_sound (by kernel_rfl)⟩ <| mem_cons' ⟨fok381 _, by kernel_rfl, noCell_sound (by kernel_rfl)⟩ <| mem_cons' ⟨fok543 _, by kernel_rfl, noCell_sound (by kernel_rfl)⟩ <| mem_cons' ⟨fok663 _, by kernel_rfl, noCell_sound (by kernel_rfl)⟩ <| mem_nil
 cls := mem_cons' (cok597 _) <| mem_cons' (cok732 _) <| mem_nil
 globs := globs_of (gok01 _)
 sps := mem_nil
 hxs := mem_nil
 hss := mem_nil
theorem read_ev (P : Params) (b : Str) (p : Int) (a : SO) (l : List SO) (k : Kt) : ev (cf0 P) 30 (fScope s543).names (.sts (fBody s543)) { loc := [("self", .obj 1), ("size", .int 1)], led := a :: sio b p :: l } k =
   ifT (decide ((b.length : Int) ≤ p)) (k (.ret (.str "")) { loc := [("self", .obj 1), ("size", .int 1), ("start", .int p), ("stop", .int b.length)], led := a :: sio b p :: l })
    (ifT (decide (p + 1 < b.length)) (k (.ret (.str (Txt.slice b (some p) (some (p + 1))))) { loc := [("self", .obj 1), ("size", .int 1), ("start", .int p), ("stop", .int (p + 1))], led := a :: sio b (p + 1) :: l })
      (k (.ret (.str (Txt.slice b (some p) (some b.length)))) { loc := [("self", .obj 1), ("size", .int 1), ("start", .int p), ("stop", .int b.length)], led := a :: sio b b.length :: l })) := by
  kernel_rfl
noncomputable def SgAt (b : Str) (p : Int) (x : SV) : Prop := 0 ≤ p ∧ p < b.length ∧ strOf x = some (Txt.slice b (some p) (some (p + 1))) ∧ (match x with
 | .sg c es fs => (∀ q ∈ es, Fast.sEq (sgS c) q.1 = q.2) ∧ (∀ q ∈ fs, inB (sgS c) q.1 = q.2)
 | _ => True)
noncomputable def args11 (svs : List SV) : Bool := match svs with
 | x :: r => match r with
  | y :: q => match q with
   | [] => match x with
    | .obj i => match y with
     | .int j => i == 1 && j == 1
     | _ => false
    | _ => false
   | _ :: _ => false
  | [] => false
 | [] => false
theorem args11_eq {svs : List SV} (h : args11 svs = true) : svs = [.obj 1, .int 1] := by
 cases svs with
 | nil => exact Bool.noConfusion h
 | cons x r =>
 cases r with
 | nil => exact Bool.noConfusion h
 | cons y q =>
 cases q with
 | cons => exact Bool.noConfusion h
 | nil =>
 cases x <;> first | exact Bool.noConfusion h | skip
 cases y <;> first | exact Bool.noConfusion h | skip
 obtain ⟨a, b⟩ := (Bool.and_eq_true_iff.mp h : _ ∧ _)
 rw [eq_of_beq a, eq_of_beq b]
noncomputable def sioOf (so : SO) : Option (Str × Int) := match so with
 | .inst _ fs => match fs with
  | _ :: r => match r with
   | f :: r => match r with
    | g :: _ => match f.2 with
     | .str b => match g.2 with
      | .int p => some (b, p)
      | _ => none
     | _ => none
    | [] => none
   | [] => none
  | [] => none
 | _ => none
noncomputable def onSio (o : Option (Str × Int)) (f : Str → Int → Prop) : Prop := match o with
 | some bp => f bp.1 bp.2
 | none => False
theorem onSio_some {o : Option (Str × Int)} {f : Str → Int → Prop} (h : onSio o f) : ∃ b p, f b p := by
 cases o with
 | none => exact h.elim
 | some bp => exact ⟨_, _, h⟩
noncomputable def rdG (svs : List SV) (st : St) (f : SO → SO → List SO → Str → Int → Prop) : Prop := match args11 svs with
 | true => match st.led with
  | a :: r => match r with
   | so :: rest => onSio (sioOf so) fun b p => f a so rest b p
   | [] => False
  | [] => False
 | false => False
theorem rdG_cases {svs : List SV} {st : St} {f : SO → SO → List SO → Str → Int → Prop} (h : rdG svs st f) : ∃ a so rest b p, svs = [.obj 1, .int 1] ∧ st.led = a :: so :: rest ∧ f a so rest b p := by
 unfold rdG at h
 cases q : args11 svs with
 | false => rw [q] at h; exact h.elim
 | true =>
  rw [q] at h
  obtain ⟨loc, led⟩ := st
  cases led with
  | nil => exact h.elim
  | cons a r =>
  cases r with
  | nil => exact h.elim
  | cons so rest =>
   obtain ⟨b, p, h⟩ := onSio_some h
   exact ⟨a, so, rest, b, p, args11_eq q, rfl, h⟩
noncomputable def rdF (x : SV) (svs : List SV) (st : St) (k : Kt) : Prop := rdG svs st fun a so rest b p => so = sio b p ∧ SgAt b p x ∧ k (.v x) { st with led := a :: sio b (p + 1) :: rest }
noncomputable def rdE (svs : List SV) (st : St) (k : Kt) : Prop := rdG svs st fun a so rest b p => so = sio b p ∧ (b.length : Int) ≤ p ∧ k (.v (.str "")) st
noncomputable def rdSp (x : SV) : SpE := ⟨543, 2, 40, rdF x⟩
noncomputable def rdEnd : SpE := ⟨543, 2, 40, rdE⟩
theorem rdF_cases {x : SV} {svs : List SV} {st : St} {k : Kt} (h : rdF x svs st k) : ∃ a b p rest, svs = [.obj 1, .int 1] ∧ st.led = a :: sio b p :: rest ∧ SgAt b p x ∧ k (.v x) { st with led := a :: sio b (p + 1) :: rest } := by
 obtain ⟨a, so, rest, b, p, e, hl, h1, h2, h3⟩ := rdG_cases h
 exact ⟨a, b, p, rest, e, by rw [hl, h1], h2, h3⟩
theorem rdE_cases {svs : List SV} {st : St} {k : Kt} (h : rdE svs st k) : ∃ a b p rest, svs = [.obj 1, .int 1] ∧ st.led = a :: sio b p :: rest ∧ (b.length : Int) ≤ p ∧ k (.v (.str "")) st := by
 obtain ⟨a, so, rest, b, p, e, hl, h1, h2, h3⟩ := rdG_cases h
 exact ⟨a, b, p, rest, e, by rw [hl, h1], h2, h3⟩
theorem rd_ok {w : World} {C : Cf} (hK : C.K = KK w.params) (hC : C.known = true) (x : SV) : SpOk w C (rdSp x) := by
 refine ⟨by rw [hK]; kernel_rfl, ?_⟩
 intro F A ads st s svs vs k Q Rr ok hA hh hd hu h R D hl T hR
 replace hA : true = true → A.frames = some F.stk := fun _ => hA hC
 obtain ⟨a, b, p, rest, rfl, hled, ⟨p0, p1, sx, fx⟩, hk⟩ := rdF_cases h
 have ok0 : FmOk (cf0 w.params) F := fm_same (by rw [hK]; rfl) ok (by first | exact fun _ => rfl | exact fun _ => by assumption | exact fun h => h)
 have cok := cok0 w
 have d40 : (rdSp x).d = 40 := rfl
 rw [d40] at hd hu
 -- the result as a plain text
 let k' : Kt := fun r st' => ∃ z, r = .v z ∧ strOf x = strOf z ∧ (∃ u, z = .str u) ∧ st' = { st with led := a :: sio b (p + 1) :: rest }
 have T' : Then w F ads s k' Q := by
  rintro r st' more c s' ⟨z, rfl, hz, ⟨u, rfl⟩, rfl⟩ R' nx d
  cases c with
  | v v =>
   refine T (.v x) _ more (.v v) s' hk R' nx ?_
   show Den F.B (ads ++ more) x v
   have du : Den F.B (ads ++ more) (.str u) v := d
   cases x with
   | str y =>
    have : y = u := by simpa [strOf] using hz
    rw [this]; exact du
   | sg c es fs =>
    have : sgS c = u := by simpa [strOf] using hz
    subst this
    exact ⟨du.1, fx.1, fx.2⟩
   | _ => cases hz
  | _ => exact d.elim
 have hb : decide ((b.length : Int) ≤ p) = false := decide_eq_false (by omega)
 refine call_code (e := f543) (n := 30) (sound cok 30) cok ok0 hA hh (by omega) (by omega) (by omega) R D (by kernel_rfl) ?_ T' hR
 rw [hled]
 show ev (cf0 w.params) 30 (fScope s543).names (.sts (fBody s543)) { loc := [("self", .obj 1), ("size", .int 1)], led := a :: sio b p :: rest } _
 rw [read_ev, hb]
 show ifT (decide (p + 1 < b.length)) _ _
 cases q : decide (p + 1 < b.length) with
 | true => exact ⟨_, rfl, sx, ⟨_, rfl⟩, rfl⟩
 | false =>
  have : (b.length : Int) = p + 1 := by have := of_decide_eq_false q; omega
  rw [this]
  exact ⟨_, rfl, sx, ⟨_, rfl⟩, rfl⟩
theorem rdEnd_ok {w : World} {C : Cf} (hK : C.K = KK w.params) (hC : C.known = true) : SpOk w C rdEnd := by
 refine ⟨by rw [hK]; kernel_rfl, ?_⟩
 intro F A ads st s svs vs k Q Rr ok hA hh hd hu h R D hl T hR
 replace hA : true = true → A.frames = some F.stk := fun _ => hA hC
 obtain ⟨a, b, p, rest, rfl, hled, hp, hk⟩ := rdE_cases h
 have ok0 : FmOk (cf0 w.params) F := fm_same (by rw [hK]; rfl) ok (by first | exact fun _ => rfl | exact fun _ => by assumption | exact fun h => h)
 have cok := cok0 w
 have d40 : rdEnd.d = 40 := rfl
 rw [d40] at hd hu
 have hb : decide ((b.length : Int) ≤ p) = true := decide_eq_true hp
 refine call_code (e := f543) (n := 30) (sound cok 30) cok ok0 hA hh (by omega) (by omega) (by omega) R D (by kernel_rfl) ?_ T hR
 rw [hled]
 show ev (cf0 w.params) 30 (fScope s543).names (.sts (fBody s543)) { loc := [("self", .obj 1), ("size", .int 1)], led := a :: sio b p :: rest } _
 rw [read_ev, hb]
 show k (.v (.str "")) { loc := st.loc, led := a :: sio b p :: rest }
 rw [← hled]
 exact hk
noncomputable def s700 : Stmt := stAt 6 (clsBody (stAt 22 B01))
noncomputable def wBody : Stmt → List Stmt
 | .While _ b _ _ => b
 | _ => []
noncomputable def rtBody : List Stmt := wBody (stAt 2 (fBody s700))
noncomputable def cfR (P : Params) (e : SpE) : Cf where
 K := KK P
 globs := g01
 fns := [f663]
 cls := [c597, c732]
 sps := [e]
noncomputable def wch : Str := "abcdfeghijklmnopqrstuvwxyzABCDEFGHIJKLMNOPQRSTUVWXYZ0123456789_ßàáâãäåæçèéêëìíîïðñòóôõöøùúûüýþÿÀÁÂÃÄÅÆÇÈÉÊËÌÍÎÏÐÑÒÓÔÕÖØÙÚÛÜÝÞ"
noncomputable abbrev lx (state token : SV) (line : Int) : SO := .inst 732 [("instream", .obj 1), ("infile", .none), ("posix", .bool true), ("eof", .none), ("commenters", .str ""), ("wordchars", .str wch), ("whitespace", .str " \t\r\n"), ("whitespace_split", .bool true), ("quotes", .str "'\""), ("escape", .str "\\"), ("escapedquotes", .str "\""), ("state", state), ("pushback", .obj 2), ("lineno", .int line), ("debug", .int 0), ("token", token), ("filestack", .obj 3), ("source", .none), ("_punctuation_chars", .str "")]
noncomputable abbrev dqO : SO := .raw (dequeO .none (rawInt 0))
noncomputable abbrev lxLed (state token : SV) (line : Int) (b : Str) (p : Int) (l : List SO) : List SO := lx state token line :: sio b p :: dqO :: dqO :: l
noncomputable def esO : List (Str × Bool) := [("\n", false), ("'", false), ("\"", false), ("\\", false)]
noncomputable def fsO (u : Bool) : List (Str × Bool) := [(" \t\r\n", false), ("", false), ("\\", false), (wch, u), ("'\"", false)]
theorem t_sp_nl (P : Params) (e : SV) (b : Str) (i p : Int) (k : Kt) : ev (cfR P (rdSp (.str "\n"))) 60 (fScope s700).names (.sts rtBody) { loc := [("self", .obj 0), ("quoted", (.bool false)), ("escapedstate", e)], led := lxLed (.str " ") (.str "") i b p [] } k = (sio b p = sio b p ∧ SgAt b p (.str "\n") ∧ k .cont { loc := [("self", .obj 0), ("quoted", (.bool false)), ("escapedstate", e), ("nextchar", (.str "\n"))], led := lxLed (.str " ") (.str "") (i + 1) b (p + 1) [] }) := by
 kernel_rfl
theorem t_sp_bl (P : Params) (e : SV) (b : Str) (i p : Int) (k : Kt) : ev (cfR P (rdSp (.str " "))) 60 (fScope s700).names (.sts rtBody) { loc := [("self", .obj 0), ("quoted", (.bool false)), ("escapedstate", e)], led := lxLed (.str " ") (.str "") i b p [] } k = (sio b p = sio b p ∧ SgAt b p (.str " ") ∧ k .cont { loc := [("self", .obj 0), ("quoted", (.bool false)), ("escapedstate", e), ("nextchar", (.str " "))], led := lxLed (.str " ") (.str "") i b (p + 1) [] }) := by
 kernel_rfl
theorem t_sp_tb (P : Params) (e : SV) (b : Str) (i p : Int) (k : Kt) : ev (cfR P (rdSp (.str "\t"))) 60 (fScope s700).names (.sts rtBody) { loc := [("self", .obj 0), ("quoted", (.bool false)), ("escapedstate", e)], led := lxLed (.str " ") (.str "") i b p [] } k = (sio b p = sio b p ∧ SgAt b p (.str "\t") ∧ k .cont { loc := [("self", .obj 0), ("quoted", (.bool false)), ("escapedstate", e), ("nextchar", (.str "\t"))], led := lxLed (.str " ") (.str "") i b (p + 1) [] }) := by
 kernel_rfl
theorem t_sp_cr (P : Params) (e : SV) (b : Str) (i p : Int) (k : Kt) : ev (cfR P (rdSp (.str "\r"))) 60 (fScope s700).names (.sts rtBody) { loc := [("self", .obj 0), ("quoted", (.bool false)), ("escapedstate", e)], led := lxLed (.str " ") (.str "") i b p [] } k = (sio b p = sio b p ∧ SgAt b p (.str "\r") ∧ k .cont { loc := [("self", .obj 0), ("quoted", (.bool false)), ("escapedstate", e), ("nextchar", (.str "\r"))], led := lxLed (.str " ") (.str "") i b (p + 1) [] }) := by
 kernel_rfl
theorem t_sp_sq (P : Params) (e : SV) (b : Str) (i p : Int) (k : Kt) : ev (cfR P (rdSp (.str "'"))) 60 (fScope s700).names (.sts rtBody) { loc := [("self", .obj 0), ("quoted", (.bool false)), ("escapedstate", e)], led := lxLed (.str " ") (.str "") i b p [] } k = (sio b p = sio b p ∧ SgAt b p (.str "'") ∧ k .next { loc := [("self", .obj 0), ("quoted", (.bool false)), ("escapedstate", e), ("nextchar", (.str "'"))], led := lxLed (.str "'") (.str "") i b (p + 1) [] }) := by
 kernel_rfl
theorem t_sp_dq (P : Params) (e : SV) (b : Str) (i p : Int) (k : Kt) : ev (cfR P (rdSp (.str "\""))) 60 (fScope s700).names (.sts rtBody) { loc := [("self", .obj 0), ("quoted", (.bool false)), ("escapedstate", e)], led := lxLed (.str " ") (.str "") i b p [] } k = (sio b p = sio b p ∧ SgAt b p (.str "\"") ∧ k .next { loc := [("self", .obj 0), ("quoted", (.bool false)), ("escapedstate", e), ("nextchar", (.str "\""))], led := lxLed (.str "\"") (.str "") i b (p + 1) [] }) := by
 kernel_rfl
theorem t_sp_bs (P : Params) (e : SV) (b : Str) (i p : Int) (k : Kt) : ev (cfR P (rdSp (.str "\\"))) 60 (fScope s700).names (.sts rtBody) { loc := [("self", .obj 0), ("quoted", (.bool false)), ("escapedstate", e)], led := lxLed (.str " ") (.str "") i b p [] } k = (sio b p = sio b p ∧ SgAt b p (.str "\\") ∧ k .next { loc := [("self", .obj 0), ("quoted", (.bool false)), ("escapedstate", (.str "a")), ("nextchar", (.str "\\"))], led := lxLed (.str "\\") (.str "") i b (p + 1) [] }) := by
 kernel_rfl
theorem t_sp_o_true (P : Params) (c : Nat) (e : SV) (b : Str) (i p : Int) (k : Kt) : ev (cfR P (rdSp (.sg c esO (fsO true)))) 60 (fScope s700).names (.sts rtBody) { loc := [("self", .obj 0), ("quoted", (.bool false)), ("escapedstate", e)], led := lxLed (.str " ") (.str "") i b p [] } k = (sio b p = sio b p ∧ SgAt b p (.sg c esO (fsO true)) ∧ k .next { loc := [("self", .obj 0), ("quoted", (.bool false)), ("escapedstate", e), ("nextchar", (.sg c esO (fsO true)))], led := lxLed (.str "a") (.str (sgS c)) i b (p + 1) [] }) := by
 kernel_rfl
theorem t_sp_o_false (P : Params) (c : Nat) (e : SV) (b : Str) (i p : Int) (k : Kt) : ev (cfR P (rdSp (.sg c esO (fsO false)))) 60 (fScope s700).names (.sts rtBody) { loc := [("self", .obj 0), ("quoted", (.bool false)), ("escapedstate", e)], led := lxLed (.str " ") (.str "") i b p [] } k = (sio b p = sio b p ∧ SgAt b p (.sg c esO (fsO false)) ∧ k .next { loc := [("self", .obj 0), ("quoted", (.bool false)), ("escapedstate", e), ("nextchar", (.sg c esO (fsO false)))], led := lxLed (.str "a") (.str (sgS c)) i b (p + 1) [] }) := by
 kernel_rfl
theorem t_sp_end (P : Params) (e : SV) (b : Str) (i p : Int) (k : Kt) : ev (cfR P rdEnd) 60 (fScope s700).names (.sts rtBody) { loc := [("self", .obj 0), ("quoted", (.bool false)), ("escapedstate", e)], led := lxLed (.str " ") (.str "") i b p [] } k = (sio b p = sio b p ∧ (b.length : Int) ≤ p ∧ k .brk { loc := [("self", .obj 0), ("quoted", (.bool false)), ("escapedstate", e), ("nextchar", .str "")], led := lxLed .none (.str "") i b p [] }) := by
 kernel_rfl
theorem t_a_nl (P : Params) (q : Bool) (e : SV) (t : Str) (b : Str) (i p : Int) (k : Kt) : ev (cfR P (rdSp (.str "\n"))) 60 (fScope s700).names (.sts rtBody) { loc := [("self", .obj 0), ("quoted", .bool q), ("escapedstate", e)], led := lxLed (.str "a") (.str t) i b p [] } k = (sio b p = sio b p ∧ SgAt b p (.str "\n") ∧ ifT ((t.length : Int) != 0) (k .brk { loc := [("self", .obj 0), ("quoted", .bool q), ("escapedstate", e), ("nextchar", (.str "\n"))], led := lxLed (.str " ") (.str t) (i + 1) b (p + 1) [.tup [.str "a", .str "c"]] }) (ifT q (k .brk { loc := [("self", .obj 0), ("quoted", .bool q), ("escapedstate", e), ("nextchar", (.str "\n"))], led := lxLed (.str " ") (.str t) (i + 1) b (p + 1) [.tup [.str "a", .str "c"]] }) (k .cont { loc := [("self", .obj 0), ("quoted", .bool q), ("escapedstate", e), ("nextchar", (.str "\n"))], led := lxLed (.str " ") (.str t) (i + 1) b (p + 1) [.tup [.str "a", .str "c"]] }))) := by
 kernel_rfl
theorem t_a_bl (P : Params) (q : Bool) (e : SV) (t : Str) (b : Str) (i p : Int) (k : Kt) : ev (cfR P (rdSp (.str " "))) 60 (fScope s700).names (.sts rtBody) { loc := [("self", .obj 0), ("quoted", .bool q), ("escapedstate", e)], led := lxLed (.str "a") (.str t) i b p [] } k = (sio b p = sio b p ∧ SgAt b p (.str " ") ∧ ifT ((t.length : Int) != 0) (k .brk { loc := [("self", .obj 0), ("quoted", .bool q), ("escapedstate", e), ("nextchar", (.str " "))], led := lxLed (.str " ") (.str t) i b (p + 1) [.tup [.str "a", .str "c"]] }) (ifT q (k .brk { loc := [("self", .obj 0), ("quoted", .bool q), ("escapedstate", e), ("nextchar", (.str " "))], led := lxLed (.str " ") (.str t) i b (p + 1) [.tup [.str "a", .str "c"]] }) (k .cont { loc := [("self", .obj 0), ("quoted", .bool q), ("escapedstate", e), ("nextchar", (.str " "))], led := lxLed (.str " ") (.str t) i b (p + 1) [.tup [.str "a", .str "c"]] }))) := by
 kernel_rfl
theorem t_a_tb (P : Params) (q : Bool) (e : SV) (t : Str) (b : Str) (i p : Int) (k : Kt) : ev (cfR P (rdSp (.str "\t"))) 60 (fScope s700).names (.sts rtBody) { loc := [("self", .obj 0), ("quoted", .bool q), ("escapedstate", e)], led := lxLed (.str "a") (.str t) i b p [] } k = (sio b p = sio b p ∧ SgAt b p (.str "\t") ∧ ifT ((t.length : Int) != 0) (k .brk { loc := [("self", .obj 0), ("quoted", .bool q), ("escapedstate", e), ("nextchar", (.str "\t"))], led := lxLed (.str " ") (.str t) i b (p + 1) [.tup [.str "a", .str "c"]] }) (ifT q (k .brk { loc := [("self", .obj 0), ("quoted", .bool q), ("escapedstate", e), ("nextchar", (.str "\t"))], led := lxLed (.str " ") (.str t) i b (p + 1) [.tup [.str "a", .str "c"]] }) (k .cont { loc := [("self", .obj 0), ("quoted", .bool q), ("escapedstate", e), ("nextchar", (.str "\t"))], led := lxLed (.str " ") (.str t) i b (p + 1) [.tup [.str "a", .str "c"]] }))) := by
 kernel_rfl
theorem t_a_cr (P : Params) (q : Bool) (e : SV) (t : Str) (b : Str) (i p : Int) (k : Kt) : ev (cfR P (rdSp (.str "\r"))) 60 (fScope s700).names (.sts rtBody) { loc := [("self", .obj 0), ("quoted", .bool q), ("escapedstate", e)], led := lxLed (.str "a") (.str t) i b p [] } k = (sio b p = sio b p ∧ SgAt b p (.str "\r") ∧ ifT ((t.length : Int) != 0) (k .brk { loc := [("self", .obj 0), ("quoted", .bool q), ("escapedstate", e), ("nextchar", (.str "\r"))], led := lxLed (.str " ") (.str t) i b (p + 1) [.tup [.str "a", .str "c"]] }) (ifT q (k .brk { loc := [("self", .obj 0), ("quoted", .bool q), ("escapedstate", e), ("nextchar", (.str "\r"))], led := lxLed (.str " ") (.str t) i b (p + 1) [.tup [.str "a", .str "c"]] }) (k .cont { loc := [("self", .obj 0), ("quoted", .bool q), ("escapedstate", e), ("nextchar", (.str "\r"))], led := lxLed (.str " ") (.str t) i b (p + 1) [.tup [.str "a", .str "c"]] }))) := by
 kernel_rfl
theorem t_a_sq (P : Params) (q : Bool) (e : SV) (t : Str) (b : Str) (i p : Int) (k : Kt) : ev (cfR P (rdSp (.str "'"))) 60 (fScope s700).names (.sts rtBody) { loc := [("self", .obj 0), ("quoted", (.bool q)), ("escapedstate", e)], led := lxLed (.str "a") (.str t) i b p [] } k = (sio b p = sio b p ∧ SgAt b p (.str "'") ∧ k .next { loc := [("self", .obj 0), ("quoted", (.bool q)), ("escapedstate", e), ("nextchar", (.str "'"))], led := lxLed (.str "'") (.str t) i b (p + 1) [.tup [.str "a", .str "c"]] }) := by
 kernel_rfl
theorem t_a_dq (P : Params) (q : Bool) (e : SV) (t : Str) (b : Str) (i p : Int) (k : Kt) : ev (cfR P (rdSp (.str "\""))) 60 (fScope s700).names (.sts rtBody) { loc := [("self", .obj 0), ("quoted", (.bool q)), ("escapedstate", e)], led := lxLed (.str "a") (.str t) i b p [] } k = (sio b p = sio b p ∧ SgAt b p (.str "\"") ∧ k .next { loc := [("self", .obj 0), ("quoted", (.bool q)), ("escapedstate", e), ("nextchar", (.str "\""))], led := lxLed (.str "\"") (.str t) i b (p + 1) [.tup [.str "a", .str "c"]] }) := by
 kernel_rfl
theorem t_a_bs (P : Params) (q : Bool) (e : SV) (t : Str) (b : Str) (i p : Int) (k : Kt) : ev (cfR P (rdSp (.str "\\"))) 60 (fScope s700).names (.sts rtBody) { loc := [("self", .obj 0), ("quoted", (.bool q)), ("escapedstate", e)], led := lxLed (.str "a") (.str t) i b p [] } k = (sio b p = sio b p ∧ SgAt b p (.str "\\") ∧ k .next { loc := [("self", .obj 0), ("quoted", (.bool q)), ("escapedstate", (.str "a")), ("nextchar", (.str "\\"))], led := lxLed (.str "\\") (.str t) i b (p + 1) [.tup [.str "a", .str "c"]] }) := by
 kernel_rfl
theorem t_a_o_true (P : Params) (c : Nat) (q : Bool) (e : SV) (t : Str) (b : Str) (i p : Int) (k : Kt) : ev (cfR P (rdSp (.sg c esO (fsO true)))) 60 (fScope s700).names (.sts rtBody) { loc := [("self", .obj 0), ("quoted", (.bool q)), ("escapedstate", e)], led := lxLed (.str "a") (.str t) i b p [] } k = (sio b p = sio b p ∧ SgAt b p (.sg c esO (fsO true)) ∧ (t.length + 1 ≤ sizeLine ∧ k .next { loc := [("self", .obj 0), ("quoted", (.bool q)), ("escapedstate", e), ("nextchar", (.sg c esO (fsO true)))], led := lxLed (.str "a") (.str (t ++ sgS c)) i b (p + 1) [.tup [.str "a", .str "c"]] })) := by
 kernel_rfl
theorem t_a_o_false (P : Params) (c : Nat) (q : Bool) (e : SV) (t : Str) (b : Str) (i p : Int) (k : Kt) : ev (cfR P (rdSp (.sg c esO (fsO false)))) 60 (fScope s700).names (.sts rtBody) { loc := [("self", .obj 0), ("quoted", (.bool q)), ("escapedstate", e)], led := lxLed (.str "a") (.str t) i b p [] } k = (sio b p = sio b p ∧ SgAt b p (.sg c esO (fsO false)) ∧ (t.length + 1 ≤ sizeLine ∧ k .next { loc := [("self", .obj 0), ("quoted", (.bool q)), ("escapedstate", e), ("nextchar", (.sg c esO (fsO false)))], led := lxLed (.str "a") (.str (t ++ sgS c)) i b (p + 1) [.tup [.str "a", .str "c"]] })) := by
 kernel_rfl
theorem t_a_end (P : Params) (q : Bool) (e : SV) (t : Str) (b : Str) (i p : Int) (k : Kt) : ev (cfR P rdEnd) 60 (fScope s700).names (.sts rtBody) { loc := [("self", .obj 0), ("quoted", (.bool q)), ("escapedstate", e)], led := lxLed (.str "a") (.str t) i b p [] } k = (sio b p = sio b p ∧ (b.length : Int) ≤ p ∧ k .brk { loc := [("self", .obj 0), ("quoted", (.bool q)), ("escapedstate", e), ("nextchar", .str "")], led := lxLed .none (.str t) i b p [.tup [.str "a", .str "c"]] }) := by
 kernel_rfl
theorem t_sq_nl (P : Params) (q : Bool) (e : SV) (t : Str) (b : Str) (i p : Int) (k : Kt) : ev (cfR P (rdSp (.str "\n"))) 60 (fScope s700).names (.sts rtBody) { loc := [("self", .obj 0), ("quoted", (.bool q)), ("escapedstate", e)], led := lxLed (.str "'") (.str t) i b p [] } k = (sio b p = sio b p ∧ SgAt b p (.str "\n") ∧ (t.length + 1 ≤ sizeLine ∧ k .next { loc := [("self", .obj 0), ("quoted", (.bool true)), ("escapedstate", e), ("nextchar", (.str "\n"))], led := lxLed (.str "'") (.str (t ++ "\n")) (i + 1) b (p + 1) [] })) := by
 kernel_rfl
theorem t_sq_bl (P : Params) (q : Bool) (e : SV) (t : Str) (b : Str) (i p : Int) (k : Kt) : ev (cfR P (rdSp (.str " "))) 60 (fScope s700).names (.sts rtBody) { loc := [("self", .obj 0), ("quoted", (.bool q)), ("escapedstate", e)], led := lxLed (.str "'") (.str t) i b p [] } k = (sio b p = sio b p ∧ SgAt b p (.str " ") ∧ (t.length + 1 ≤ sizeLine ∧ k .next { loc := [("self", .obj 0), ("quoted", (.bool true)), ("escapedstate", e), ("nextchar", (.str " "))], led := lxLed (.str "'") (.str (t ++ " ")) i b (p + 1) [] })) := by
 kernel_rfl
theorem t_sq_tb (P : Params) (q : Bool) (e : SV) (t : Str) (b : Str) (i p : Int) (k : Kt) : ev (cfR P (rdSp (.str "\t"))) 60 (fScope s700).names (.sts rtBody) { loc := [("self", .obj 0), ("quoted", (.bool q)), ("escapedstate", e)], led := lxLed (.str "'") (.str t) i b p [] } k = (sio b p = sio b p ∧ SgAt b p (.str "\t") ∧ (t.length + 1 ≤ sizeLine ∧ k .next { loc := [("self", .obj 0), ("quoted", (.bool true)), ("escapedstate", e), ("nextchar", (.str "\t"))], led := lxLed (.str "'") (.str (t ++ "\t")) i b (p + 1) [] })) := by
 kernel_rfl
theorem t_sq_cr (P : Params) (q : Bool) (e : SV) (t : Str) (b : Str) (i p : Int) (k : Kt) : ev (cfR P (rdSp (.str "\r"))) 60 (fScope s700).names (.sts rtBody) { loc := [("self", .obj 0), ("quoted", (.bool q)), ("escapedstate", e)], led := lxLed (.str "'") (.str t) i b p [] } k = (sio b p = sio b p ∧ SgAt b p (.str "\r") ∧ (t.length + 1 ≤ sizeLine ∧ k .next { loc := [("self", .obj 0), ("quoted", (.bool true)), ("escapedstate", e), ("nextchar", (.str "\r"))], led := lxLed (.str "'") (.str (t ++ "\r")) i b (p + 1) [] })) := by
 kernel_rfl
theorem t_sq_sq (P : Params) (q : Bool) (e : SV) (t : Str) (b : Str) (i p : Int) (k : Kt) : ev (cfR P (rdSp (.str "'"))) 60 (fScope s700).names (.sts rtBody) { loc := [("self", .obj 0), ("quoted", (.bool q)), ("escapedstate", e)], led := lxLed (.str "'") (.str t) i b p [] } k = (sio b p = sio b p ∧ SgAt b p (.str "'") ∧ k .next { loc := [("self", .obj 0), ("quoted", (.bool true)), ("escapedstate", e), ("nextchar", (.str "'"))], led := lxLed (.str "a") (.str t) i b (p + 1) [] }) := by
 kernel_rfl
theorem t_sq_dq (P : Params) (q : Bool) (e : SV) (t : Str) (b : Str) (i p : Int) (k : Kt) : ev (cfR P (rdSp (.str "\""))) 60 (fScope s700).names (.sts rtBody) { loc := [("self", .obj 0), ("quoted", (.bool q)), ("escapedstate", e)], led := lxLed (.str "'") (.str t) i b p [] } k = (sio b p = sio b p ∧ SgAt b p (.str "\"") ∧ (t.length + 1 ≤ sizeLine ∧ k .next { loc := [("self", .obj 0), ("quoted", (.bool true)), ("escapedstate", e), ("nextchar", (.str "\""))], led := lxLed (.str "'") (.str (t ++ "\"")) i b (p + 1) [] })) := by
 kernel_rfl
theorem t_sq_bs (P : Params) (q : Bool) (e : SV) (t : Str) (b : Str) (i p : Int) (k : Kt) : ev (cfR P (rdSp (.str "\\"))) 60 (fScope s700).names (.sts rtBody) { loc := [("self", .obj 0), ("quoted", (.bool q)), ("escapedstate", e)], led := lxLed (.str "'") (.str t) i b p [] } k = (sio b p = sio b p ∧ SgAt b p (.str "\\") ∧ (t.length + 1 ≤ sizeLine ∧ k .next { loc := [("self", .obj 0), ("quoted", (.bool true)), ("escapedstate", e), ("nextchar", (.str "\\"))], led := lxLed (.str "'") (.str (t ++ "\\")) i b (p + 1) [] })) := by
 kernel_rfl
theorem t_sq_o_true (P : Params) (c : Nat) (q : Bool) (e : SV) (t : Str) (b : Str) (i p : Int) (k : Kt) : ev (cfR P (rdSp (.sg c esO (fsO true)))) 60 (fScope s700).names (.sts rtBody) { loc := [("self", .obj 0), ("quoted", (.bool q)), ("escapedstate", e)], led := lxLed (.str "'") (.str t) i b p [] } k = (sio b p = sio b p ∧ SgAt b p (.sg c esO (fsO true)) ∧ (t.length + 1 ≤ sizeLine ∧ k .next { loc := [("self", .obj 0), ("quoted", (.bool true)), ("escapedstate", e), ("nextchar", (.sg c esO (fsO true)))], led := lxLed (.str "'") (.str (t ++ sgS c)) i b (p + 1) [] })) := by
 kernel_rfl
theorem t_sq_o_false (P : Params) (c : Nat) (q : Bool) (e : SV) (t : Str) (b : Str) (i p : Int) (k : Kt) : ev (cfR P (rdSp (.sg c esO (fsO false)))) 60 (fScope s700).names (.sts rtBody) { loc := [("self", .obj 0), ("quoted", (.bool q)), ("escapedstate", e)], led := lxLed (.str "'") (.str t) i b p [] } k = (sio b p = sio b p ∧ SgAt b p (.sg c esO (fsO false)) ∧ (t.length + 1 ≤ sizeLine ∧ k .next { loc := [("self", .obj 0), ("quoted", (.bool true)), ("escapedstate", e), ("nextchar", (.sg c esO (fsO false)))], led := lxLed (.str "'") (.str (t ++ sgS c)) i b (p + 1) [] })) := by
 kernel_rfl
theorem t_dq_nl (P : Params) (q : Bool) (e : SV) (t : Str) (b : Str) (i p : Int) (k : Kt) : ev (cfR P (rdSp (.str "\n"))) 60 (fScope s700).names (.sts rtBody) { loc := [("self", .obj 0), ("quoted", (.bool q)), ("escapedstate", e)], led := lxLed (.str "\"") (.str t) i b p [] } k = (sio b p = sio b p ∧ SgAt b p (.str "\n") ∧ (t.length + 1 ≤ sizeLine ∧ k .next { loc := [("self", .obj 0), ("quoted", (.bool true)), ("escapedstate", e), ("nextchar", (.str "\n"))], led := lxLed (.str "\"") (.str (t ++ "\n")) (i + 1) b (p + 1) [] })) := by
 kernel_rfl
theorem t_dq_bl (P : Params) (q : Bool) (e : SV) (t : Str) (b : Str) (i p : Int) (k : Kt) : ev (cfR P (rdSp (.str " "))) 60 (fScope s700).names (.sts rtBody) { loc := [("self", .obj 0), ("quoted", (.bool q)), ("escapedstate", e)], led := lxLed (.str "\"") (.str t) i b p [] } k = (sio b p = sio b p ∧ SgAt b p (.str " ") ∧ (t.length + 1 ≤ sizeLine ∧ k .next { loc := [("self", .obj 0), ("quoted", (.bool true)), ("escapedstate", e), ("nextchar", (.str " "))], led := lxLed (.str "\"") (.str (t ++ " ")) i b (p + 1) [] })) := by
 kernel_rfl
theorem t_dq_tb (P : Params) (q : Bool) (e : SV) (t : Str) (b : Str) (i p : Int) (k : Kt) : ev (cfR P (rdSp (.str "\t"))) 60 (fScope s700).names (.sts rtBody) { loc := [("self", .obj 0), ("quoted", (.bool q)), ("escapedstate", e)], led := lxLed (.str "\"") (.str t) i b p [] } k = (sio b p = sio b p ∧ SgAt b p (.str "\t") ∧ (t.length + 1 ≤ sizeLine ∧ k .next { loc := [("self", .obj 0), ("quoted", (.bool true)), ("escapedstate", e), ("nextchar", (.str "\t"))], led := lxLed (.str "\"") (.str (t ++ "\t")) i b (p + 1) [] })) := by
 kernel_rfl
theorem t_dq_cr (P : Params) (q : Bool) (e : SV) (t : Str) (b : Str) (i p : Int) (k : Kt) : ev (cfR P (rdSp (.str "\r"))) 60 (fScope s700).names (.sts rtBody) { loc := [("self", .obj 0), ("quoted", (.bool q)), ("escapedstate", e)], led := lxLed (.str "\"") (.str t) i b p [] } k = (sio b p = sio b p ∧ SgAt b p (.str "\r") ∧ (t.length + 1 ≤ sizeLine ∧ k .next { loc := [("self", .obj 0), ("quoted", (.bool true)), ("escapedstate", e), ("nextchar", (.str "\r"))], led := lxLed (.str "\"") (.str (t ++ "\r")) i b (p + 1) [] })) := by
 kernel_rfl
theorem t_dq_sq (P : Params) (q : Bool) (e : SV) (t : Str) (b : Str) (i p : Int) (k : Kt) : ev (cfR P (rdSp (.str "'"))) 60 (fScope s700).names (.sts rtBody) { loc := [("self", .obj 0), ("quoted", (.bool q)), ("escapedstate", e)], led := lxLed (.str "\"") (.str t) i b p [] } k = (sio b p = sio b p ∧ SgAt b p (.str "'") ∧ (t.length + 1 ≤ sizeLine ∧ k .next { loc := [("self", .obj 0), ("quoted", (.bool true)), ("escapedstate", e), ("nextchar", (.str "'"))], led := lxLed (.str "\"") (.str (t ++ "'")) i b (p + 1) [] })) := by
 kernel_rfl
theorem t_dq_dq (P : Params) (q : Bool) (e : SV) (t : Str) (b : Str) (i p : Int) (k : Kt) : ev (cfR P (rdSp (.str "\""))) 60 (fScope s700).names (.sts rtBody) { loc := [("self", .obj 0), ("quoted", (.bool q)), ("escapedstate", e)], led := lxLed (.str "\"") (.str t) i b p [] } k = (sio b p = sio b p ∧ SgAt b p (.str "\"") ∧ k .next { loc := [("self", .obj 0), ("quoted", (.bool true)), ("escapedstate", e), ("nextchar", (.str "\""))], led := lxLed (.str "a") (.str t) i b (p + 1) [] }) := by
 kernel_rfl
theorem t_dq_bs (P : Params) (q : Bool) (e : SV) (t : Str) (b : Str) (i p : Int) (k : Kt) : ev (cfR P (rdSp (.str "\\"))) 60 (fScope s700).names (.sts rtBody) { loc := [("self", .obj 0), ("quoted", (.bool q)), ("escapedstate", e)], led := lxLed (.str "\"") (.str t) i b p [] } k = (sio b p = sio b p ∧ SgAt b p (.str "\\") ∧ k .next { loc := [("self", .obj 0), ("quoted", (.bool true)), ("escapedstate", (.str "\"")), ("nextchar", (.str "\\"))], led := lxLed (.str "\\") (.str t) i b (p + 1) [] }) := by
 kernel_rfl
theorem t_dq_o_true (P : Params) (c : Nat) (q : Bool) (e : SV) (t : Str) (b : Str) (i p : Int) (k : Kt) : ev (cfR P (rdSp (.sg c esO (fsO true)))) 60 (fScope s700).names (.sts rtBody) { loc := [("self", .obj 0), ("quoted", (.bool q)), ("escapedstate", e)], led := lxLed (.str "\"") (.str t) i b p [] } k = (sio b p = sio b p ∧ SgAt b p (.sg c esO (fsO true)) ∧ (t.length + 1 ≤ sizeLine ∧ k .next { loc := [("self", .obj 0), ("quoted", (.bool true)), ("escapedstate", e), ("nextchar", (.sg c esO (fsO true)))], led := lxLed (.str "\"") (.str (t ++ sgS c)) i b (p + 1) [] })) := by
 kernel_rfl
theorem t_dq_o_false (P : Params) (c : Nat) (q : Bool) (e : SV) (t : Str) (b : Str) (i p : Int) (k : Kt) : ev (cfR P (rdSp (.sg c esO (fsO false)))) 60 (fScope s700).names (.sts rtBody) { loc := [("self", .obj 0), ("quoted", (.bool q)), ("escapedstate", e)], led := lxLed (.str "\"") (.str t) i b p [] } k = (sio b p = sio b p ∧ SgAt b p (.sg c esO (fsO false)) ∧ (t.length + 1 ≤ sizeLine ∧ k .next { loc := [("self", .obj 0), ("quoted", (.bool true)), ("escapedstate", e), ("nextchar", (.sg c esO (fsO false)))], led := lxLed (.str "\"") (.str (t ++ sgS c)) i b (p + 1) [] })) := by
 kernel_rfl
theorem t_es_a_nl (P : Params) (q : Bool) (t : Str) (b : Str) (i p : Int) (k : Kt) : ev (cfR P (rdSp (.str "\n"))) 60 (fScope s700).names (.sts rtBody) { loc := [("self", .obj 0), ("quoted", (.bool q)), ("escapedstate", (.str "a"))], led := lxLed (.str "\\") (.str t) i b p [] } k = (sio b p = sio b p ∧ SgAt b p (.str "\n") ∧ (t.length + 1 ≤ sizeLine ∧ k .next { loc := [("self", .obj 0), ("quoted", (.bool q)), ("escapedstate", (.str "a")), ("nextchar", (.str "\n"))], led := lxLed (.str "a") (.str (t ++ "\n")) (i + 1) b (p + 1) [] })) := by
 kernel_rfl
theorem t_es_a_bl (P : Params) (q : Bool) (t : Str) (b : Str) (i p : Int) (k : Kt) : ev (cfR P (rdSp (.str " "))) 60 (fScope s700).names (.sts rtBody) { loc := [("self", .obj 0), ("quoted", (.bool q)), ("escapedstate", (.str "a"))], led := lxLed (.str "\\") (.str t) i b p [] } k = (sio b p = sio b p ∧ SgAt b p (.str " ") ∧ (t.length + 1 ≤ sizeLine ∧ k .next { loc := [("self", .obj 0), ("quoted", (.bool q)), ("escapedstate", (.str "a")), ("nextchar", (.str " "))], led := lxLed (.str "a") (.str (t ++ " ")) i b (p + 1) [] })) := by
 kernel_rfl
theorem t_es_a_tb (P : Params) (q : Bool) (t : Str) (b : Str) (i p : Int) (k : Kt) : ev (cfR P (rdSp (.str "\t"))) 60 (fScope s700).names (.sts rtBody) { loc := [("self", .obj 0), ("quoted", (.bool q)), ("escapedstate", (.str "a"))], led := lxLed (.str "\\") (.str t) i b p [] } k = (sio b p = sio b p ∧ SgAt b p (.str "\t") ∧ (t.length + 1 ≤ sizeLine ∧ k .next { loc := [("self", .obj 0), ("quoted", (.bool q)), ("escapedstate", (.str "a")), ("nextchar", (.str "\t"))], led := lxLed (.str "a") (.str (t ++ "\t")) i b (p + 1) [] })) := by
 kernel_rfl
theorem t_es_a_cr (P : Params) (q : Bool) (t : Str) (b : Str) (i p : Int) (k : Kt) : ev (cfR P (rdSp (.str "\r"))) 60 (fScope s700).names (.sts rtBody) { loc := [("self", .obj 0), ("quoted", (.bool q)), ("escapedstate", (.str "a"))], led := lxLed (.str "\\") (.str t) i b p [] } k = (sio b p = sio b p ∧ SgAt b p (.str "\r") ∧ (t.length + 1 ≤ sizeLine ∧ k .next { loc := [("self", .obj 0), ("quoted", (.bool q)), ("escapedstate", (.str "a")), ("nextchar", (.str "\r"))], led := lxLed (.str "a") (.str (t ++ "\r")) i b (p + 1) [] })) := by
 kernel_rfl
theorem t_es_a_sq (P : Params) (q : Bool) (t : Str) (b : Str) (i p : Int) (k : Kt) : ev (cfR P (rdSp (.str "'"))) 60 (fScope s700).names (.sts rtBody) { loc := [("self", .obj 0), ("quoted", (.bool q)), ("escapedstate", (.str "a"))], led := lxLed (.str "\\") (.str t) i b p [] } k = (sio b p = sio b p ∧ SgAt b p (.str "'") ∧ (t.length + 1 ≤ sizeLine ∧ k .next { loc := [("self", .obj 0), ("quoted", (.bool q)), ("escapedstate", (.str "a")), ("nextchar", (.str "'"))], led := lxLed (.str "a") (.str (t ++ "'")) i b (p + 1) [] })) := by
 kernel_rfl
theorem t_es_a_dq (P : Params) (q : Bool) (t : Str) (b : Str) (i p : Int) (k : Kt) : ev (cfR P (rdSp (.str "\""))) 60 (fScope s700).names (.sts rtBody) { loc := [("self", .obj 0), ("quoted", (.bool q)), ("escapedstate", (.str "a"))], led := lxLed (.str "\\") (.str t) i b p [] } k = (sio b p = sio b p ∧ SgAt b p (.str "\"") ∧ (t.length + 1 ≤ sizeLine ∧ k .next { loc := [("self", .obj 0), ("quoted", (.bool q)), ("escapedstate", (.str "a")), ("nextchar", (.str "\""))], led := lxLed (.str "a") (.str (t ++ "\"")) i b (p + 1) [] })) := by
 kernel_rfl
theorem t_es_a_bs (P : Params) (q : Bool) (t : Str) (b : Str) (i p : Int) (k : Kt) : ev (cfR P (rdSp (.str "\\"))) 60 (fScope s700).names (.sts rtBody) { loc := [("self", .obj 0), ("quoted", (.bool q)), ("escapedstate", (.str "a"))], led := lxLed (.str "\\") (.str t) i b p [] } k = (sio b p = sio b p ∧ SgAt b p (.str "\\") ∧ (t.length + 1 ≤ sizeLine ∧ k .next { loc := [("self", .obj 0), ("quoted", (.bool q)), ("escapedstate", (.str "a")), ("nextchar", (.str "\\"))], led := lxLed (.str "a") (.str (t ++ "\\")) i b (p + 1) [] })) := by
 kernel_rfl
theorem t_es_a_o_true (P : Params) (c : Nat) (q : Bool) (t : Str) (b : Str) (i p : Int) (k : Kt) : ev (cfR P (rdSp (.sg c esO (fsO true)))) 60 (fScope s700).names (.sts rtBody) { loc := [("self", .obj 0), ("quoted", (.bool q)), ("escapedstate", (.str "a"))], led := lxLed (.str "\\") (.str t) i b p [] } k = (sio b p = sio b p ∧ SgAt b p (.sg c esO (fsO true)) ∧ (t.length + 1 ≤ sizeLine ∧ k .next { loc := [("self", .obj 0), ("quoted", (.bool q)), ("escapedstate", (.str "a")), ("nextchar", (.sg c esO (fsO true)))], led := lxLed (.str "a") (.str (t ++ sgS c)) i b (p + 1) [] })) := by
 kernel_rfl
theorem t_es_a_o_false (P : Params) (c : Nat) (q : Bool) (t : Str) (b : Str) (i p : Int) (k : Kt) : ev (cfR P (rdSp (.sg c esO (fsO false)))) 60 (fScope s700).names (.sts rtBody) { loc := [("self", .obj 0), ("quoted", (.bool q)), ("escapedstate", (.str "a"))], led := lxLed (.str "\\") (.str t) i b p [] } k = (sio b p = sio b p ∧ SgAt b p (.sg c esO (fsO false)) ∧ (t.length + 1 ≤ sizeLine ∧ k .next { loc := [("self", .obj 0), ("quoted", (.bool q)), ("escapedstate", (.str "a")), ("nextchar", (.sg c esO (fsO false)))], led := lxLed (.str "a") (.str (t ++ sgS c)) i b (p + 1) [] })) := by
 kernel_rfl
theorem t_es_dq_nl (P : Params) (q : Bool) (t : Str) (b : Str) (i p : Int) (k : Kt) : ev (cfR P (rdSp (.str "\n"))) 60 (fScope s700).names (.sts rtBody) { loc := [("self", .obj 0), ("quoted", (.bool q)), ("escapedstate", (.str "\""))], led := lxLed (.str "\\") (.str t) i b p [] } k = (sio b p = sio b p ∧ SgAt b p (.str "\n") ∧ (t.length + 1 ≤ sizeLine ∧ ((t ++ "\\").length + 1 ≤ sizeLine ∧ k .next { loc := [("self", .obj 0), ("quoted", (.bool q)), ("escapedstate", (.str "\"")), ("nextchar", (.str "\n"))], led := lxLed (.str "\"") (.str (t ++ "\\" ++ "\n")) (i + 1) b (p + 1) [] }))) := by
 kernel_rfl
theorem t_es_dq_bl (P : Params) (q : Bool) (t : Str) (b : Str) (i p : Int) (k : Kt) : ev (cfR P (rdSp (.str " "))) 60 (fScope s700).names (.sts rtBody) { loc := [("self", .obj 0), ("quoted", (.bool q)), ("escapedstate", (.str "\""))], led := lxLed (.str "\\") (.str t) i b p [] } k = (sio b p = sio b p ∧ SgAt b p (.str " ") ∧ (t.length + 1 ≤ sizeLine ∧ ((t ++ "\\").length + 1 ≤ sizeLine ∧ k .next { loc := [("self", .obj 0), ("quoted", (.bool q)), ("escapedstate", (.str "\"")), ("nextchar", (.str " "))], led := lxLed (.str "\"") (.str (t ++ "\\" ++ " ")) i b (p + 1) [] }))) := by
 kernel_rfl
theorem t_es_dq_tb (P : Params) (q : Bool) (t : Str) (b : Str) (i p : Int) (k : Kt) : ev (cfR P (rdSp (.str "\t"))) 60 (fScope s700).names (.sts rtBody) { loc := [("self", .obj 0), ("quoted", (.bool q)), ("escapedstate", (.str "\""))], led := lxLed (.str "\\") (.str t) i b p [] } k = (sio b p = sio b p ∧ SgAt b p (.str "\t") ∧ (t.length + 1 ≤ sizeLine ∧ ((t ++ "\\").length + 1 ≤ sizeLine ∧ k .next { loc := [("self", .obj 0), ("quoted", (.bool q)), ("escapedstate", (.str "\"")), ("nextchar", (.str "\t"))], led := lxLed (.str "\"") (.str (t ++ "\\" ++ "\t")) i b (p + 1) [] }))) := by
 kernel_rfl
theorem t_es_dq_cr (P : Params) (q : Bool) (t : Str) (b : Str) (i p : Int) (k : Kt) : ev (cfR P (rdSp (.str "\r"))) 60 (fScope s700).names (.sts rtBody) { loc := [("self", .obj 0), ("quoted", (.bool q)), ("escapedstate", (.str "\""))], led := lxLed (.str "\\") (.str t) i b p [] } k = (sio b p = sio b p ∧ SgAt b p (.str "\r") ∧ (t.length + 1 ≤ sizeLine ∧ ((t ++ "\\").length + 1 ≤ sizeLine ∧ k .next { loc := [("self", .obj 0), ("quoted", (.bool q)), ("escapedstate", (.str "\"")), ("nextchar", (.str "\r"))], led := lxLed (.str "\"") (.str (t ++ "\\" ++ "\r")) i b (p + 1) [] }))) := by
 kernel_rfl
theorem t_es_dq_sq (P : Params) (q : Bool) (t : Str) (b : Str) (i p : Int) (k : Kt) : ev (cfR P (rdSp (.str "'"))) 60 (fScope s700).names (.sts rtBody) { loc := [("self", .obj 0), ("quoted", (.bool q)), ("escapedstate", (.str "\""))], led := lxLed (.str "\\") (.str t) i b p [] } k = (sio b p = sio b p ∧ SgAt b p (.str "'") ∧ (t.length + 1 ≤ sizeLine ∧ ((t ++ "\\").length + 1 ≤ sizeLine ∧ k .next { loc := [("self", .obj 0), ("quoted", (.bool q)), ("escapedstate", (.str "\"")), ("nextchar", (.str "'"))], led := lxLed (.str "\"") (.str (t ++ "\\" ++ "'")) i b (p + 1) [] }))) := by
 kernel_rfl
theorem t_es_dq_dq (P : Params) (q : Bool) (t : Str) (b : Str) (i p : Int) (k : Kt) : ev (cfR P (rdSp (.str "\""))) 60 (fScope s700).names (.sts rtBody) { loc := [("self", .obj 0), ("quoted", (.bool q)), ("escapedstate", (.str "\""))], led := lxLed (.str "\\") (.str t) i b p [] } k = (sio b p = sio b p ∧ SgAt b p (.str "\"") ∧ (t.length + 1 ≤ sizeLine ∧ k .next { loc := [("self", .obj 0), ("quoted", (.bool q)), ("escapedstate", (.str "\"")), ("nextchar", (.str "\""))], led := lxLed (.str "\"") (.str (t ++ "\"")) i b (p + 1) [] })) := by
 kernel_rfl
theorem t_es_dq_bs (P : Params) (q : Bool) (t : Str) (b : Str) (i p : Int) (k : Kt) : ev (cfR P (rdSp (.str "\\"))) 60 (fScope s700).names (.sts rtBody) { loc := [("self", .obj 0), ("quoted", (.bool q)), ("escapedstate", (.str "\""))], led := lxLed (.str "\\") (.str t) i b p [] } k = (sio b p = sio b p ∧ SgAt b p (.str "\\") ∧ (t.length + 1 ≤ sizeLine ∧ k .next { loc := [("self", .obj 0), ("quoted", (.bool q)), ("escapedstate", (.str "\"")), ("nextchar", (.str "\\"))], led := lxLed (.str "\"") (.str (t ++ "\\")) i b (p + 1) [] })) := by
 kernel_rfl
theorem t_es_dq_o_true (P : Params) (c : Nat) (q : Bool) (t : Str) (b : Str) (i p : Int) (k : Kt) : ev (cfR P (rdSp (.sg c esO (fsO true)))) 60 (fScope s700).names (.sts rtBody) { loc := [("self", .obj 0), ("quoted", (.bool q)), ("escapedstate", (.str "\""))], led := lxLed (.str "\\") (.str t) i b p [] } k = (sio b p = sio b p ∧ SgAt b p (.sg c esO (fsO true)) ∧ (t.length + 1 ≤ sizeLine ∧ ((t ++ "\\").length + 1 ≤ sizeLine ∧ k .next { loc := [("self", .obj 0), ("quoted", (.bool q)), ("escapedstate", (.str "\"")), ("nextchar", (.sg c esO (fsO true)))], led := lxLed (.str "\"") (.str (t ++ "\\" ++ sgS c)) i b (p + 1) [] }))) := by
 kernel_rfl
theorem t_es_dq_o_false (P : Params) (c : Nat) (q : Bool) (t : Str) (b : Str) (i p : Int) (k : Kt) : ev (cfR P (rdSp (.sg c esO (fsO false)))) 60 (fScope s700).names (.sts rtBody) { loc := [("self", .obj 0), ("quoted", (.bool q)), ("escapedstate", (.str "\""))], led := lxLed (.str "\\") (.str t) i b p [] } k = (sio b p = sio b p ∧ SgAt b p (.sg c esO (fsO false)) ∧ (t.length + 1 ≤ sizeLine ∧ ((t ++ "\\").length + 1 ≤ sizeLine ∧ k .next { loc := [("self", .obj 0), ("quoted", (.bool q)), ("escapedstate", (.str "\"")), ("nextchar", (.sg c esO (fsO false)))], led := lxLed (.str "\"") (.str (t ++ "\\" ++ sgS c)) i b (p + 1) [] }))) := by
 kernel_rfl
noncomputable def tx (l : List Nat) : Str := ⟨l.toArray⟩
theorem tx_len (l : List Nat) : (tx l).length = l.length := by simp [tx, Str.length]
theorem tx_one (c : Nat) : tx [c] = sgS c := rfl
theorem tx_append (a b : List Nat) : tx a ++ tx b = tx (a ++ b) := by
 show Str.mk _ = Str.mk _
 simp [tx]
theorem slice_tx (l : List Nat) {a b : Nat} (hab : a ≤ b) (hb : b ≤ l.length) : Txt.slice (tx l) (some (a : Int)) (some (b : Int)) = tx ((l.drop a).take (b - a)) := by
 unfold Txt.slice
 have hl : (tx l).length = l.length := tx_len l
 have len : (PySem.Builtin.Str.strSliceIndices (some (a : Int)) (some (b : Int)) 1 (tx l).length).length = b - a := by
  rw [StrLaws.strSliceIndices_plain hab (by rw [hl]; exact hb)]; simp
 split
 ·rename_i h
  rw [Bool.and_eq_true] at h
  have e := eq_of_beq h.2
  rw [len, hl] at e
  have h1 : a = 0 := by omega
  have h2 : b - a = l.length := e
  subst h1
  rw [h2, List.drop_zero, List.take_length]
 ·rw [StrLaws.sliced_plain (tx l) hab (by rw [hl]; exact hb)]
  rfl
theorem slice_at (pre : List Nat) (c : Nat) (r : List Nat) : Txt.slice (tx (pre ++ c :: r)) (some (pre.length : Int)) (some ((pre.length : Int) + 1)) = sgS c := by
 have := slice_tx (pre ++ c :: r) (a := pre.length) (b := pre.length + 1) (by lia) (by simp)
 rw [show ((pre.length + 1 : Nat) : Int) = (pre.length : Int) + 1 by lia] at this
 rw [this, List.drop_left, Nat.add_sub_cancel_left, List.take_succ_cons, List.take_zero]
 rfl
inductive LQ where
 | sp | a | sq | dq | ea | ed
noncomputable def LQ.sv : LQ → SV
 | .sp => .str " "
 | .a => .str "a"
 | .sq => .str "'"
 | .dq => .str "\""
 | .ea => .str "\\"
 | .ed => .str "\\"
noncomputable def ws (c : Nat) : Bool := c == 32 || c == 9 || c == 13 || c == 10
noncomputable def nl (c : Nat) : Int := if c = 10 then 1 else 0
structure LR where
 q : Option LQ
 quoted : Bool
 tok : List Nat
 e : Str
 line : Int
 rest : List Nat
noncomputable def go : List Nat → LQ → Bool → List Nat → Str → Int → Option LR
 | [], .sp, _, _, e, i => some ⟨none, false, [], e, i, []⟩
 | [], .a, q, t, e, i => some ⟨none, q, t, e, i, []⟩
 | [], _, _, _, _, _ => none
 | c :: r, .sp, _, _, e, i =>
  if ws c then go r .sp false [] e (i + nl c)
  else if c = 39 then go r .sq false [] e i
  else if c = 34 then go r .dq false [] e i
  else if c = 92 then go r .ea false [] "a" i
  else go r .a false [c] e i
 | c :: r, .a, q, t, e, i =>
  if ws c then (if t ≠ [] ∨ q = true then some ⟨some .sp, q, t, e, i + nl c, r⟩ else go r .sp false [] e (i + nl c))
  else if c = 39 then go r .sq q t e i
  else if c = 34 then go r .dq q t e i
  else if c = 92 then go r .ea q t "a" i
  else go r .a q (t ++ [c]) e i
 | c :: r, .sq, _, t, e, i => if c = 39 then go r .a true t e i else go r .sq true (t ++ [c]) e (i + nl c)
 | c :: r, .dq, _, t, e, i => if c = 34 then go r .a true t e i else if c = 92 then go r .ed true t "\"" i else go r .dq true (t ++ [c]) e (i + nl c)
 | c :: r, .ea, q, t, _, i => go r .a q (t ++ [c]) "a" (i + nl c)
 | c :: r, .ed, q, t, _, i => if c = 92 ∨ c = 34 then go r .dq q (t ++ [c]) "\"" (i + nl c) else go r .dq q (t ++ [92, c]) "\"" (i + nl c)
theorem trimLx {loc more : List (Str × SV)} {sv : SV} {t b : Str} {i p : Int} {extra : List SO} (hs : plainSV sv) (hl : okF 4 loc) :
  Trim 4 ⟨loc ++ more, lxLed sv (.str t) i b p extra⟩ ⟨loc, lxLed sv (.str t) i b p []⟩ := by
 have h4 := okV_of (n := 4) hs
 refine ⟨fun x y h => ⟨y, lk_append h, svT_refl (okF_mem hl _ (lk_mem h))⟩, ?_⟩
 have e1 : ∀ k, k < 4 → okV 4 (.obj k) := fun k h => h
 refine .cons (.inst (fldT_refl ?_)) (.cons (.inst (fldT_refl ?_)) (.cons .raw (.cons .raw .nil)))
 ·exact ⟨e1 1 (by lia), trivial, trivial, trivial, trivial, trivial, trivial, trivial, trivial, trivial, trivial, h4, e1 2 (by lia), trivial, trivial, trivial, e1 3 (by lia), trivial, trivial, trivial⟩
 ·exact ⟨trivial, trivial, trivial, trivial⟩
theorem inB_one (c : Nat) (b : Str) : inB (sgS c) b = decide (c ∈ b.cps.toList) := StrLaws.found_one b c
theorem sEq_one (c d : Nat) : Fast.sEq (sgS c) (sgS d) = decide (c = d) := by
 rw [← beq_sEq]
 by_cases h : c = d
 ·subst h; simp
 ·rw [decide_eq_false h]
  refine beq_eq_false_iff_ne.mpr fun e => h ?_
  have : (sgS c).cps = (sgS d).cps := by rw [e]
  simpa [sgS] using this
noncomputable def isW (c : Nat) : Bool := inB (sgS c) wch
theorem lit_nl : ("\n" : Str) = sgS 10 := by decide +kernel
theorem lit_bl : (" " : Str) = sgS 32 := by decide +kernel
theorem lit_tb : ("\t" : Str) = sgS 9 := by decide +kernel
theorem lit_cr : ("\r" : Str) = sgS 13 := by decide +kernel
theorem lit_sq : ("'" : Str) = sgS 39 := by decide +kernel
theorem lit_dq : ("\"" : Str) = sgS 34 := by decide +kernel
theorem lit_bs : ("\\" : Str) = sgS 92 := by decide +kernel
structure Other (c : Nat) : Prop where
 nl : c ≠ 10
 bl : c ≠ 32
 tb : c ≠ 9
 cr : c ≠ 13
 sq : c ≠ 39
 dq : c ≠ 34
 bs : c ≠ 92
theorem cps_ws : (" \t\r\n" : Str).cps.toList = [32, 9, 13, 10] := by decide +kernel
theorem cps_em : ("" : Str).cps.toList = [] := by decide +kernel
theorem cps_bs : ("\\" : Str).cps.toList = [92] := by decide +kernel
theorem cps_qs : ("'\"" : Str).cps.toList = [39, 34] := by decide +kernel
theorem sgAt_o {pre r : List Nat} {c : Nat} (o : Other c) : SgAt (tx (pre ++ c :: r)) pre.length (.sg c esO (fsO (isW c))) := by
 refine ⟨by lia, by rw [tx_len]; simp; lia, by rw [slice_at]; rfl, ?_, ?_⟩
 ·refine mem_cons' ?_ (mem_cons' ?_ (mem_cons' ?_ (mem_cons' ?_ mem_nil)))
  ·show Fast.sEq (sgS c) "\n" = false; rw [lit_nl, sEq_one]; exact decide_eq_false o.nl
  ·show Fast.sEq (sgS c) "'" = false; rw [lit_sq, sEq_one]; exact decide_eq_false o.sq
  ·show Fast.sEq (sgS c) "\"" = false; rw [lit_dq, sEq_one]; exact decide_eq_false o.dq
  ·show Fast.sEq (sgS c) "\\" = false; rw [lit_bs, sEq_one]; exact decide_eq_false o.bs
 ·refine mem_cons' ?_ (mem_cons' ?_ (mem_cons' ?_ (mem_cons' ?_ (mem_cons' ?_ mem_nil))))
  ·show inB (sgS c) " \t\r\n" = false; rw [inB_one, cps_ws]; exact decide_eq_false (by simp [o.nl, o.bl, o.tb, o.cr])
  ·show inB (sgS c) "" = false; rw [inB_one, cps_em]; exact decide_eq_false (by simp)
  ·show inB (sgS c) "\\" = false; rw [inB_one, cps_bs]; exact decide_eq_false (by simp [o.bs])
  ·rfl
  ·show inB (sgS c) "'\"" = false; rw [inB_one, cps_qs]; exact decide_eq_false (by simp [o.sq, o.dq])
theorem sgAt_s {pre r : List Nat} {c : Nat} {s : Str} (e : s = sgS c) : SgAt (tx (pre ++ c :: r)) pre.length (.str s) := by
 refine ⟨by lia, by rw [tx_len]; simp; lia, by rw [slice_at, ← e]; rfl, trivial⟩
theorem cokR (w : World) (e : SpE) (he : SpOk w (cfR w.params e) e) : CfOk w (cfR w.params e) where
 fns := mem_cons' ⟨fok663 _, by kernel_rfl, noCell_sound (by kernel_rfl)⟩ <| mem_nil
 cls := mem_cons' (cok597 _) <| mem_cons' (cok732 _) <| mem_nil
 globs := globs_of (gok01 _)
 sps := mem_cons' he mem_nil
 hxs := mem_nil
 hss := mem_nil
noncomputable def wTest : Stmt → Expr
 | .While t _ _ _ => t
 | _ => default
noncomputable def rtTest : Expr := wTest (stAt 2 (fBody s700))
section
variable {w : World} {F : Fm} {ads : Wd} {s : Shared} {Q : CR → Shared → Prop} {E : Value → Shared → Prop}
theorem test_ev (P : Params) (e : SpE) (ns : List (Str × NameKind)) (st : St) (k : Kt) : ev (cfR P e) 60 ns (.tr rtTest) st k = k (.b true) st := by kernel_rfl
theorem lex_next {e : SpE} (he : SpOk w (cfR w.params e) e) (hF : F.sc.names = (fScope s700).names) (ok : FmOk (cfR w.params e) F) (hd : F.A.depth + 60 < recursionLimit) (hu : F.A.units + 8 * 60 < cLine) {st st' st'' : St} {r : SR} (hr : r = .next ∨ r = .cont)
  (hev : ∀ k : Kt, k r st' → ev (cfR w.params e) 60 (fScope s700).names (.sts rtBody) st k) (hl : st.led.length = 4) (tr : Trim 4 st' st'') (R : Rep w F ads st s.heap)
  (next : ∀ z s', Rep w F (ads ++ (⟨[], z⟩ : Wd)) st'' s'.heap → Nx F s s' → Goal w F (.wl rtTest rtBody) Q E s') : Goal w F (.wl rtTest rtBody) Q E s := by
 refine wl_turn (K := fun r' x => r' = r ∧ x = st'') (cokR w e he) ok hd hu (by rw [test_ev]; exact ⟨rfl, rfl⟩) (by rw [hF]; exact hev _ ⟨st'', by rw [hl]; exact tr, rfl, rfl⟩) R ?_ ?_ ?_
 ·rintro r' x ⟨rfl, rfl⟩
  rcases hr with h | h
  ·exact .inl h
  ·exact .inr (.inl h)
 ·rintro x z s' h R' nx
  rcases h with ⟨_, rfl⟩ | ⟨_, rfl⟩ <;> exact next z s' R' nx
 ·rintro x z s' ⟨h, _⟩
  rcases hr with h' | h' <;> rw [h'] at h <;> cases h
theorem lex_brk {e : SpE} (he : SpOk w (cfR w.params e) e) (hF : F.sc.names = (fScope s700).names) (ok : FmOk (cfR w.params e) F) (hd : F.A.depth + 60 < recursionLimit) (hu : F.A.units + 8 * 60 < cLine) {st st' st'' : St}
  (hev : ∀ k : Kt, k .brk st' → ev (cfR w.params e) 60 (fScope s700).names (.sts rtBody) st k) (hl : st.led.length = 4) (tr : Trim 4 st' st'') (R : Rep w F ads st s.heap)
  (brk : ∀ z s', Rep w F (ads ++ (⟨[], z⟩ : Wd)) st'' s'.heap → Nx F s s' → Q (.fl .next) s') : Goal w F (.wl rtTest rtBody) Q E s := by
 refine wl_turn (K := fun r' x => r' = .brk ∧ x = st'') (cokR w e he) ok hd hu (by rw [test_ev]; exact ⟨rfl, rfl⟩) (by rw [hF]; exact hev _ ⟨st'', by rw [hl]; exact tr, rfl, rfl⟩) R ?_ ?_ ?_
 ·rintro r' x ⟨rfl, rfl⟩
  exact .inr (.inr rfl)
 ·rintro x z s' h R' nx
  rcases h with ⟨h, _⟩ | ⟨h, _⟩ <;> cases h
 ·rintro x z s' ⟨_, rfl⟩ R' nx
  exact brk z s' R' nx
end
noncomputable abbrev lst (q : SV) (quoted : Bool) (t : List Nat) (e : Str) (i : Int) (b : Str) (p : Int) : St := ⟨[("self", .obj 0), ("quoted", .bool quoted), ("escapedstate", .str e)], lxLed q (.str (tx t)) i b p []⟩
noncomputable def svq : Option LQ → SV
 | none => .none
 | some q => q.sv
noncomputable def escN : LQ → Nat
 | .ea => 1
 | .ed => 1
 | _ => 0
theorem lit_em : ("" : Str) = tx [] := by decide +kernel
theorem plain_sv (q : LQ) : plainSV q.sv := by cases q <;> trivial
theorem tx_snoc (t : List Nat) (c : Nat) : tx t ++ sgS c = tx (t ++ [c]) := tx_append t [c]
theorem ws_cases {c : Nat} (h : ws c = true) : c = 32 ∨ c = 9 ∨ c = 13 ∨ c = 10 := by
 unfold ws at h
 simpa only [Bool.or_eq_true, beq_iff_eq, or_assoc] using h
theorem not_ws {c : Nat} (h : ¬ ws c = true) : c ≠ 32 ∧ c ≠ 9 ∧ c ≠ 13 ∧ c ≠ 10 :=
 ⟨fun e => h (by subst e; rfl), fun e => h (by subst e; rfl), fun e => h (by subst e; rfl), fun e => h (by subst e; rfl)⟩
section
variable {w : World} {F : Fm} {ads : Wd} {s : Shared} {Q : CR → Shared → Prop} {E : Value → Shared → Prop}
structure LexOk (w : World) (F : Fm) : Prop where
 names : F.sc.names = (fScope s700).names
 fm : FmOk (cf0 w.params) F
 d : F.A.depth + 60 < recursionLimit
 u : F.A.units + 8 * 60 < cLine
theorem lexStep (L : LexOk w F) (x : SV) {q : SV} (q' : SV) (hq : plainSV q') {quoted : Bool} (quoted' : Bool) {t : List Nat} (t' : List Nat) {e : Str} (e' : Str) {b : Str} {i : Int} (i' : Int) {p : Int} (p' : Int) (extra : List SO) {r : SR} (hr : r = .next ∨ r = .cont)
  (hev : ∀ k : Kt, k r ⟨[("self", .obj 0), ("quoted", .bool quoted'), ("escapedstate", .str e'), ("nextchar", x)], lxLed q' (.str (tx t')) i' b p' extra⟩ → ev (cfR w.params (rdSp x)) 60 (fScope s700).names (.sts rtBody) (lst q quoted t e i b p) k)
  (R : Rep w F ads (lst q quoted t e i b p) s.heap)
  (next : ∀ z s', Rep w F (ads ++ (⟨[], z⟩ : Wd)) (lst q' quoted' t' e' i' b p') s'.heap → Nx F s s' → Goal w F (.wl rtTest rtBody) Q E s') : Goal w F (.wl rtTest rtBody) Q E s :=
 lex_next (e := rdSp x) (rd_ok rfl rfl x) L.names (fm_same (C := cf0 w.params) rfl L.fm (fun _ => rfl)) L.d L.u hr hev rfl (trimLx (loc := [("self", .obj 0), ("quoted", .bool quoted'), ("escapedstate", .str e')]) (more := [("nextchar", x)]) hq ⟨by show 0 < 4; lia, trivial, trivial, trivial⟩) R next
theorem lexEnd (L : LexOk w F) {q : SV} (q' : SV) (hq : plainSV q') {quoted : Bool} (quoted' : Bool) {t : List Nat} (t' : List Nat) {e : Str} (e' : Str) {b : Str} {i : Int} (i' : Int) {p : Int} (p' : Int) (extra : List SO)
  (hev : ∀ k : Kt, k .brk ⟨[("self", .obj 0), ("quoted", .bool quoted'), ("escapedstate", .str e'), ("nextchar", .str "")], lxLed q' (.str (tx t')) i' b p' extra⟩ → ev (cfR w.params rdEnd) 60 (fScope s700).names (.sts rtBody) (lst q quoted t e i b p) k)
  (R : Rep w F ads (lst q quoted t e i b p) s.heap)
  (brk : ∀ z s', Rep w F (ads ++ (⟨[], z⟩ : Wd)) (lst q' quoted' t' e' i' b p') s'.heap → Nx F s s' → Q (.fl .next) s') : Goal w F (.wl rtTest rtBody) Q E s :=
 lex_brk (e := rdEnd) (rdEnd_ok rfl rfl) L.names (fm_same (C := cf0 w.params) rfl L.fm (fun _ => rfl)) L.d L.u hev rfl (trimLx (loc := [("self", .obj 0), ("quoted", .bool quoted'), ("escapedstate", .str e')]) (more := [("nextchar", .str "")]) hq ⟨by show 0 < 4; lia, trivial, trivial, trivial⟩) R brk
theorem lexBrk (L : LexOk w F) (x : SV) {q : SV} (q' : SV) (hq : plainSV q') {quoted : Bool} (quoted' : Bool) {t : List Nat} (t' : List Nat) {e : Str} (e' : Str) {b : Str} {i : Int} (i' : Int) {p : Int} (p' : Int) (extra : List SO)
  (hev : ∀ k : Kt, k .brk ⟨[("self", .obj 0), ("quoted", .bool quoted'), ("escapedstate", .str e'), ("nextchar", x)], lxLed q' (.str (tx t')) i' b p' extra⟩ → ev (cfR w.params (rdSp x)) 60 (fScope s700).names (.sts rtBody) (lst q quoted t e i b p) k)
  (R : Rep w F ads (lst q quoted t e i b p) s.heap)
  (brk : ∀ z s', Rep w F (ads ++ (⟨[], z⟩ : Wd)) (lst q' quoted' t' e' i' b p') s'.heap → Nx F s s' → Q (.fl .next) s') : Goal w F (.wl rtTest rtBody) Q E s :=
 lex_brk (e := rdSp x) (rd_ok rfl rfl x) L.names (fm_same (C := cf0 w.params) rfl L.fm (fun _ => rfl)) L.d L.u hev rfl (trimLx (loc := [("self", .obj 0), ("quoted", .bool quoted'), ("escapedstate", .str e')]) (more := [("nextchar", x)]) hq ⟨by show 0 < 4; lia, trivial, trivial, trivial⟩) R brk
end
theorem sn_nl (t : List Nat) : tx t ++ ("\n" : Str) = tx (t ++ [10]) := by rw [lit_nl]; exact tx_snoc t 10
theorem sn_bl (t : List Nat) : tx t ++ (" " : Str) = tx (t ++ [32]) := by rw [lit_bl]; exact tx_snoc t 32
theorem sn_tb (t : List Nat) : tx t ++ ("\t" : Str) = tx (t ++ [9]) := by rw [lit_tb]; exact tx_snoc t 9
theorem sn_cr (t : List Nat) : tx t ++ ("\r" : Str) = tx (t ++ [13]) := by rw [lit_cr]; exact tx_snoc t 13
theorem sn_sq (t : List Nat) : tx t ++ ("'" : Str) = tx (t ++ [39]) := by rw [lit_sq]; exact tx_snoc t 39
theorem sn_dq (t : List Nat) : tx t ++ ("\"" : Str) = tx (t ++ [34]) := by rw [lit_dq]; exact tx_snoc t 34
theorem sn_bs (t : List Nat) : tx t ++ ("\\" : Str) = tx (t ++ [92]) := by rw [lit_bs]; exact tx_snoc t 92
structure LInv (q : LQ) (quoted : Bool) (t : List Nat) (e : Str) (n : Nat) : Prop where
 sp : q = .sp → quoted = false ∧ t = []
 ea : q = .ea → e = "a"
 ed : q = .ed → e = "\""
 len : t.length + escN q ≤ n
theorem LInv.to {q' : LQ} {quoted' : Bool} {t' : List Nat} {e' : Str} {n : Nat} (ok : match q' with
  | .sp => quoted' = false ∧ t' = []
  | .ea => e' = "a"
  | .ed => e' = "\""
  | _ => True) (len : t'.length + escN q' ≤ n) : LInv q' quoted' t' e' n :=
 ⟨fun h => by subst h; exact ok, fun h => by subst h; exact ok, fun h => by subst h; exact ok, len⟩
theorem escN_le (q : LQ) : escN q ≤ 1 := by cases q <;> decide
theorem ln0 {a n : Nat} (h : a ≤ 1) : ([] : List Nat).length + a ≤ n + 1 := by simp; lia
theorem ln1 {c n : Nat} : ([c] : List Nat).length + 0 ≤ n + 1 := by simp
theorem lnT {t : List Nat} {a b n : Nat} (h : t.length + a ≤ n) (hb : b ≤ 1) : t.length + b ≤ n + 1 := by lia
theorem lnS {t : List Nat} {c a n : Nat} (h : t.length + a ≤ n) : (t ++ [c]).length + 0 ≤ n + 1 := by simp; lia
theorem lnD {t : List Nat} {x c n : Nat} (h : t.length + 1 ≤ n) : (t ++ [x, c]).length + 0 ≤ n + 1 := by simp; omega
theorem pos_after (a r : Nat) : (((a + (r + 1) - r : Nat)) : Int) = (a : Int) + 1 := by lia
section
variable {w : World} {F : Fm} {Q : CR → Shared → Prop} {E : Value → Shared → Prop}
theorem lexLoop (L : LexOk w F) : ∀ (rest pre : List Nat) (q : LQ) (quoted : Bool) (t : List Nat) (e : Str) (i : Int) (lr : LR) (ads : Wd) (s : Shared), go rest q quoted t e i = some lr → LInv q quoted t e pre.length → (pre ++ rest).length ≤ sizeLine →
  Rep w F ads (lst q.sv quoted t e i (tx (pre ++ rest)) pre.length) s.heap →
  (∀ z s', Rep w F (ads ++ (⟨[], z⟩ : Wd)) (lst (svq lr.q) lr.quoted lr.tok lr.e lr.line (tx (pre ++ rest)) ((pre ++ rest).length - lr.rest.length : Nat)) s'.heap → Nx F s s' → Q (.fl .next) s') → Goal w F (.wl rtTest rtBody) Q E s := by
 intro rest
 induction rest with
 | nil =>
  intro pre q quoted t e i lr ads s hg inv hlen R fin
  cases q with
  | sp =>
   obtain ⟨rfl, rfl⟩ := inv.sp rfl
   simp only [go, Option.some.injEq] at hg
   subst hg
   refine lexEnd L .none trivial false [] e i pre.length [] (fun k hk => ?_) R (fun z s' R' nx => fin z s' ?_ nx)
   ·show ev _ _ _ _ ⟨_, lxLed (.str " ") (.str (tx [])) _ _ _ _⟩ _
    rw [← lit_em, t_sp_end]
    exact ⟨rfl, by rw [tx_len]; simp, by rw [lit_em]; exact hk⟩
   ·simpa [svq] using R'
  | a =>
   simp only [go, Option.some.injEq] at hg
   subst hg
   refine lexEnd L .none trivial quoted t e i pre.length [.tup [.str "a", .str "c"]] (fun k hk => ?_) R (fun z s' R' nx => fin z s' ?_ nx)
   ·show ev _ _ _ _ ⟨_, lxLed (.str "a") (.str (tx t)) _ _ _ _⟩ _
    exact Eq.mpr (t_a_end ..) ⟨rfl, by rw [tx_len]; simp, hk⟩
   ·simpa [svq] using R'
  | _ => simp [go] at hg
 | cons c r ih =>
  intro pre q quoted t e i lr ads s hg inv hlen R fin
  have nx : ∀ (q' : LQ) (quoted' : Bool) (t' : List Nat) (e' : Str) (i' : Int), go r q' quoted' t' e' i' = some lr → LInv q' quoted' t' e' (pre.length + 1) → ∀ z s', Rep w F (ads ++ (⟨[], z⟩ : Wd)) (lst q'.sv quoted' t' e' i' (tx (pre ++ c :: r)) ((pre.length : Int) + 1)) s'.heap → Nx F s s' → Goal w F (.wl rtTest rtBody) Q E s' := by
   intro q' quoted' t' e' i' hg' inv' z s' R' nx'
   have e1 : (pre ++ [c]) ++ r = pre ++ c :: r := by simp
   have e2 : (((pre ++ [c]).length : Nat) : Int) = (pre.length : Int) + 1 := by simp
   refine ih (pre ++ [c]) q' quoted' t' e' i' lr (ads ++ (⟨[], z⟩ : Wd)) s' hg' (by simpa using inv') (by rw [e1]; exact hlen) (by rw [e1, e2]; exact R') fun z' s'' R'' nx'' => ?_
   rw [e1, Wd.append_assoc] at R''
   exact fin (z ++ z') s'' R'' (nx'.trans nx'')
  cases q with
  | sp =>
   obtain ⟨rfl, rfl⟩ := inv.sp rfl
   by_cases hw : ws c = true
   ·rcases ws_cases hw with rfl | rfl | rfl | rfl
    ·replace hg : go r .sp false [] e (i + 0) = some lr := hg
     rw [Int.add_zero] at hg
     refine lexStep L (.str " ") LQ.sp.sv (plain_sv .sp) false [] e i ((pre.length : Int) + 1) [] (r := .cont) (.inr rfl) (fun k hk => ?_) R (nx .sp false [] e i hg ?_)
     ·show ev _ _ _ _ ⟨_, lxLed (.str " ") (.str (tx [])) _ _ _ _⟩ _
      rw [← lit_em, t_sp_bl]
      exact ⟨rfl, sgAt_s lit_bl, by rw [lit_em]; exact hk⟩
     ·exact LInv.to ⟨rfl, rfl⟩ (ln0 (escN_le _))
    ·replace hg : go r .sp false [] e (i + 0) = some lr := hg
     rw [Int.add_zero] at hg
     refine lexStep L (.str "\t") LQ.sp.sv (plain_sv .sp) false [] e i ((pre.length : Int) + 1) [] (r := .cont) (.inr rfl) (fun k hk => ?_) R (nx .sp false [] e i hg ?_)
     ·show ev _ _ _ _ ⟨_, lxLed (.str " ") (.str (tx [])) _ _ _ _⟩ _
      rw [← lit_em, t_sp_tb]
      exact ⟨rfl, sgAt_s lit_tb, by rw [lit_em]; exact hk⟩
     ·exact LInv.to ⟨rfl, rfl⟩ (ln0 (escN_le _))
    ·replace hg : go r .sp false [] e (i + 0) = some lr := hg
     rw [Int.add_zero] at hg
     refine lexStep L (.str "\r") LQ.sp.sv (plain_sv .sp) false [] e i ((pre.length : Int) + 1) [] (r := .cont) (.inr rfl) (fun k hk => ?_) R (nx .sp false [] e i hg ?_)
     ·show ev _ _ _ _ ⟨_, lxLed (.str " ") (.str (tx [])) _ _ _ _⟩ _
      rw [← lit_em, t_sp_cr]
      exact ⟨rfl, sgAt_s lit_cr, by rw [lit_em]; exact hk⟩
     ·exact LInv.to ⟨rfl, rfl⟩ (ln0 (escN_le _))
    ·replace hg : go r .sp false [] e (i + 1) = some lr := hg
     refine lexStep L (.str "\n") LQ.sp.sv (plain_sv .sp) false [] e (i + 1) ((pre.length : Int) + 1) [] (r := .cont) (.inr rfl) (fun k hk => ?_) R (nx .sp false [] e (i + 1) hg ?_)
     ·show ev _ _ _ _ ⟨_, lxLed (.str " ") (.str (tx [])) _ _ _ _⟩ _
      rw [← lit_em, t_sp_nl]
      exact ⟨rfl, sgAt_s lit_nl, by rw [lit_em]; exact hk⟩
     ·exact LInv.to ⟨rfl, rfl⟩ (ln0 (escN_le _))
   ·obtain ⟨w1, w2, w3, w4⟩ := not_ws hw
    by_cases h39 : c = 39
    ·subst h39
     replace hg : go r .sq false [] e i = some lr := hg
     refine lexStep L (.str "'") LQ.sq.sv (plain_sv .sq) false [] e i ((pre.length : Int) + 1) [] (r := .next) (.inl rfl) (fun k hk => ?_) R (nx .sq false [] e i hg ?_)
     ·show ev _ _ _ _ ⟨_, lxLed (.str " ") (.str (tx [])) _ _ _ _⟩ _
      rw [← lit_em, t_sp_sq]
      exact ⟨rfl, sgAt_s lit_sq, by rw [lit_em]; exact hk⟩
     ·exact LInv.to trivial (ln0 (escN_le _))
    by_cases h34 : c = 34
    ·subst h34
     replace hg : go r .dq false [] e i = some lr := hg
     refine lexStep L (.str "\"") LQ.dq.sv (plain_sv .dq) false [] e i ((pre.length : Int) + 1) [] (r := .next) (.inl rfl) (fun k hk => ?_) R (nx .dq false [] e i hg ?_)
     ·show ev _ _ _ _ ⟨_, lxLed (.str " ") (.str (tx [])) _ _ _ _⟩ _
      rw [← lit_em, t_sp_dq]
      exact ⟨rfl, sgAt_s lit_dq, by rw [lit_em]; exact hk⟩
     ·exact LInv.to trivial (ln0 (escN_le _))
    by_cases h92 : c = 92
    ·subst h92
     replace hg : go r .ea false [] "a" i = some lr := hg
     refine lexStep L (.str "\\") LQ.ea.sv (plain_sv .ea) false [] "a" i ((pre.length : Int) + 1) [] (r := .next) (.inl rfl) (fun k hk => ?_) R (nx .ea false [] "a" i hg ?_)
     ·show ev _ _ _ _ ⟨_, lxLed (.str " ") (.str (tx [])) _ _ _ _⟩ _
      rw [← lit_em, t_sp_bs]
      exact ⟨rfl, sgAt_s lit_bs, by rw [lit_em]; exact hk⟩
     ·exact LInv.to rfl (ln0 (escN_le _))
    have ho : Other c := ⟨w4, w1, w2, w3, h39, h34, h92⟩
    simp [go, hw, h39, h34, h92] at hg
    cases hW : isW c
    ·have sg := sgAt_o (pre := pre) (r := r) ho
     rw [hW] at sg
     refine lexStep L (.sg c esO (fsO false)) LQ.a.sv (plain_sv .a) false [c] e i ((pre.length : Int) + 1) [] (r := .next) (.inl rfl) (fun k hk => ?_) R (nx .a false [c] e i hg ?_)
     ·show ev _ _ _ _ ⟨_, lxLed (.str " ") (.str (tx [])) _ _ _ _⟩ _
      rw [← lit_em, t_sp_o_false]
      exact ⟨rfl, sg, hk⟩
     ·exact LInv.to trivial ln1
    ·have sg := sgAt_o (pre := pre) (r := r) ho
     rw [hW] at sg
     refine lexStep L (.sg c esO (fsO true)) LQ.a.sv (plain_sv .a) false [c] e i ((pre.length : Int) + 1) [] (r := .next) (.inl rfl) (fun k hk => ?_) R (nx .a false [c] e i hg ?_)
     ·show ev _ _ _ _ ⟨_, lxLed (.str " ") (.str (tx [])) _ _ _ _⟩ _
      rw [← lit_em, t_sp_o_true]
      exact ⟨rfl, sg, hk⟩
     ·exact LInv.to trivial ln1
  | a =>
   by_cases hw : ws c = true
   ·by_cases htq : t ≠ [] ∨ quoted = true
    ·have hb : ∀ A B : Prop, A → ifT (((tx t).length : Int) != 0) A (ifT quoted A B) := by
      intro A B a
      cases h1 : (((tx t).length : Int) != 0) with
      | true => exact a
      | false =>
       have : t = [] := by
        have z := bne_eq_false_iff_eq.mp h1
        rw [tx_len] at z
        exact List.length_eq_zero_iff.mp (by lia)
       rcases htq with q | q
       ·exact (q this).elim
       ·rw [q]; exact a
     rcases ws_cases hw with rfl | rfl | rfl | rfl
     ·simp only [go, hw, if_true, if_pos htq, Option.some.injEq] at hg
      subst hg
      refine lexBrk L (.str " ") LQ.sp.sv (plain_sv .sp) quoted t e i ((pre.length : Int) + 1) [.tup [.str "a", .str "c"]] (fun k hk => ?_) R (fun z s' R' nx' => fin z s' ?_ nx')
      ·show ev _ _ _ _ ⟨_, lxLed (.str "a") (.str (tx t)) _ _ _ _⟩ _
       exact Eq.mpr (t_a_bl ..) ⟨rfl, sgAt_s lit_bl, hb _ _ hk⟩
      ·simpa [svq, nl, pos_after] using R'
     ·simp only [go, hw, if_true, if_pos htq, Option.some.injEq] at hg
      subst hg
      refine lexBrk L (.str "\t") LQ.sp.sv (plain_sv .sp) quoted t e i ((pre.length : Int) + 1) [.tup [.str "a", .str "c"]] (fun k hk => ?_) R (fun z s' R' nx' => fin z s' ?_ nx')
      ·show ev _ _ _ _ ⟨_, lxLed (.str "a") (.str (tx t)) _ _ _ _⟩ _
       exact Eq.mpr (t_a_tb ..) ⟨rfl, sgAt_s lit_tb, hb _ _ hk⟩
      ·simpa [svq, nl, pos_after] using R'
     ·simp only [go, hw, if_true, if_pos htq, Option.some.injEq] at hg
      subst hg
      refine lexBrk L (.str "\r") LQ.sp.sv (plain_sv .sp) quoted t e i ((pre.length : Int) + 1) [.tup [.str "a", .str "c"]] (fun k hk => ?_) R (fun z s' R' nx' => fin z s' ?_ nx')
      ·show ev _ _ _ _ ⟨_, lxLed (.str "a") (.str (tx t)) _ _ _ _⟩ _
       exact Eq.mpr (t_a_cr ..) ⟨rfl, sgAt_s lit_cr, hb _ _ hk⟩
      ·simpa [svq, nl, pos_after] using R'
     ·simp only [go, hw, if_true, if_pos htq, Option.some.injEq] at hg
      subst hg
      refine lexBrk L (.str "\n") LQ.sp.sv (plain_sv .sp) quoted t e (i + 1) ((pre.length : Int) + 1) [.tup [.str "a", .str "c"]] (fun k hk => ?_) R (fun z s' R' nx' => fin z s' ?_ nx')
      ·show ev _ _ _ _ ⟨_, lxLed (.str "a") (.str (tx t)) _ _ _ _⟩ _
       exact Eq.mpr (t_a_nl ..) ⟨rfl, sgAt_s lit_nl, hb _ _ hk⟩
      ·simpa [svq, nl, pos_after] using R'
    ·have htq' : t = [] ∧ quoted = false := by
      refine ⟨Classical.byContradiction fun q => htq (.inl q), ?_⟩
      cases quoted with
      | false => rfl
      | true => exact (htq (.inr rfl)).elim
     obtain ⟨rfl, rfl⟩ := htq'
     rcases ws_cases hw with rfl | rfl | rfl | rfl
     ·replace hg : go r .sp false [] e (i + 0) = some lr := hg
      rw [Int.add_zero] at hg
      refine lexStep L (.str " ") LQ.sp.sv (plain_sv .sp) false [] e i ((pre.length : Int) + 1) [.tup [.str "a", .str "c"]] (r := .cont) (.inr rfl) (fun k hk => ?_) R (nx .sp false [] e i hg ?_)
      ·show ev _ _ _ _ ⟨_, lxLed (.str "a") (.str (tx [])) _ _ _ _⟩ _
       exact Eq.mpr (t_a_bl ..) ⟨rfl, sgAt_s lit_bl, hk⟩
      ·exact LInv.to ⟨rfl, rfl⟩ (ln0 (escN_le _))
     ·replace hg : go r .sp false [] e (i + 0) = some lr := hg
      rw [Int.add_zero] at hg
      refine lexStep L (.str "\t") LQ.sp.sv (plain_sv .sp) false [] e i ((pre.length : Int) + 1) [.tup [.str "a", .str "c"]] (r := .cont) (.inr rfl) (fun k hk => ?_) R (nx .sp false [] e i hg ?_)
      ·show ev _ _ _ _ ⟨_, lxLed (.str "a") (.str (tx [])) _ _ _ _⟩ _
       exact Eq.mpr (t_a_tb ..) ⟨rfl, sgAt_s lit_tb, hk⟩
      ·exact LInv.to ⟨rfl, rfl⟩ (ln0 (escN_le _))
     ·replace hg : go r .sp false [] e (i + 0) = some lr := hg
      rw [Int.add_zero] at hg
      refine lexStep L (.str "\r") LQ.sp.sv (plain_sv .sp) false [] e i ((pre.length : Int) + 1) [.tup [.str "a", .str "c"]] (r := .cont) (.inr rfl) (fun k hk => ?_) R (nx .sp false [] e i hg ?_)
      ·show ev _ _ _ _ ⟨_, lxLed (.str "a") (.str (tx [])) _ _ _ _⟩ _
       exact Eq.mpr (t_a_cr ..) ⟨rfl, sgAt_s lit_cr, hk⟩
      ·exact LInv.to ⟨rfl, rfl⟩ (ln0 (escN_le _))
     ·replace hg : go r .sp false [] e (i + 1) = some lr := hg
      refine lexStep L (.str "\n") LQ.sp.sv (plain_sv .sp) false [] e (i + 1) ((pre.length : Int) + 1) [.tup [.str "a", .str "c"]] (r := .cont) (.inr rfl) (fun k hk => ?_) R (nx .sp false [] e (i + 1) hg ?_)
      ·show ev _ _ _ _ ⟨_, lxLed (.str "a") (.str (tx [])) _ _ _ _⟩ _
       exact Eq.mpr (t_a_nl ..) ⟨rfl, sgAt_s lit_nl, hk⟩
      ·exact LInv.to ⟨rfl, rfl⟩ (ln0 (escN_le _))
   ·obtain ⟨w1, w2, w3, w4⟩ := not_ws hw
    by_cases h39 : c = 39
    ·subst h39
     replace hg : go r .sq quoted t e i = some lr := hg
     refine lexStep L (.str "'") LQ.sq.sv (plain_sv .sq) quoted t e i ((pre.length : Int) + 1) [.tup [.str "a", .str "c"]] (r := .next) (.inl rfl) (fun k hk => ?_) R (nx .sq quoted t e i hg ?_)
     ·show ev _ _ _ _ ⟨_, lxLed (.str "a") (.str (tx t)) _ _ _ _⟩ _
      exact Eq.mpr (t_a_sq ..) ⟨rfl, sgAt_s lit_sq, by exact hk⟩
     ·exact LInv.to trivial (lnT inv.len (escN_le _))
    by_cases h34 : c = 34
    ·subst h34
     replace hg : go r .dq quoted t e i = some lr := hg
     refine lexStep L (.str "\"") LQ.dq.sv (plain_sv .dq) quoted t e i ((pre.length : Int) + 1) [.tup [.str "a", .str "c"]] (r := .next) (.inl rfl) (fun k hk => ?_) R (nx .dq quoted t e i hg ?_)
     ·show ev _ _ _ _ ⟨_, lxLed (.str "a") (.str (tx t)) _ _ _ _⟩ _
      exact Eq.mpr (t_a_dq ..) ⟨rfl, sgAt_s lit_dq, by exact hk⟩
     ·exact LInv.to trivial (lnT inv.len (escN_le _))
    by_cases h92 : c = 92
    ·subst h92
     replace hg : go r .ea quoted t "a" i = some lr := hg
     refine lexStep L (.str "\\") LQ.ea.sv (plain_sv .ea) quoted t "a" i ((pre.length : Int) + 1) [.tup [.str "a", .str "c"]] (r := .next) (.inl rfl) (fun k hk => ?_) R (nx .ea quoted t "a" i hg ?_)
     ·show ev _ _ _ _ ⟨_, lxLed (.str "a") (.str (tx t)) _ _ _ _⟩ _
      exact Eq.mpr (t_a_bs ..) ⟨rfl, sgAt_s lit_bs, by exact hk⟩
     ·exact LInv.to rfl (lnT inv.len (escN_le _))
    have ho : Other c := ⟨w4, w1, w2, w3, h39, h34, h92⟩
    simp [go, hw, h39, h34, h92] at hg
    cases hW : isW c
    ·have sg := sgAt_o (pre := pre) (r := r) ho
     rw [hW] at sg
     refine lexStep L (.sg c esO (fsO false)) LQ.a.sv (plain_sv .a) quoted (t ++ [c]) e i ((pre.length : Int) + 1) [.tup [.str "a", .str "c"]] (r := .next) (.inl rfl) (fun k hk => ?_) R (nx .a quoted (t ++ [c]) e i hg ?_)
     ·show ev _ _ _ _ ⟨_, lxLed (.str "a") (.str (tx t)) _ _ _ _⟩ _
      exact Eq.mpr (t_a_o_false ..) ⟨rfl, sg, by rw [tx_len]; have := inv.len; simp [escN] at this hlen ⊢; lia, by rw [tx_snoc]; exact hk⟩
     ·exact LInv.to trivial (lnS inv.len)
    ·have sg := sgAt_o (pre := pre) (r := r) ho
     rw [hW] at sg
     refine lexStep L (.sg c esO (fsO true)) LQ.a.sv (plain_sv .a) quoted (t ++ [c]) e i ((pre.length : Int) + 1) [.tup [.str "a", .str "c"]] (r := .next) (.inl rfl) (fun k hk => ?_) R (nx .a quoted (t ++ [c]) e i hg ?_)
     ·show ev _ _ _ _ ⟨_, lxLed (.str "a") (.str (tx t)) _ _ _ _⟩ _
      exact Eq.mpr (t_a_o_true ..) ⟨rfl, sg, by rw [tx_len]; have := inv.len; simp [escN] at this hlen ⊢; lia, by rw [tx_snoc]; exact hk⟩
     ·exact LInv.to trivial (lnS inv.len)
  | sq =>
   by_cases h10 : c = 10
   ·subst h10
    replace hg : go r .sq true (t ++ [10]) e (i + 1) = some lr := hg
    refine lexStep L (.str "\n") LQ.sq.sv (plain_sv .sq) true (t ++ [10]) e (i + 1) ((pre.length : Int) + 1) [] (r := .next) (.inl rfl) (fun k hk => ?_) R (nx .sq true (t ++ [10]) e (i + 1) hg ?_)
    ·show ev _ _ _ _ ⟨_, lxLed (.str "'") (.str (tx t)) _ _ _ _⟩ _
     exact Eq.mpr (t_sq_nl ..) ⟨rfl, sgAt_s lit_nl, by rw [tx_len]; have := inv.len; simp [escN] at this hlen ⊢; lia, by rw [sn_nl]; exact hk⟩
    ·exact LInv.to trivial (lnS inv.len)
   by_cases h32 : c = 32
   ·subst h32
    replace hg : go r .sq true (t ++ [32]) e (i + 0) = some lr := hg
    rw [Int.add_zero] at hg
    refine lexStep L (.str " ") LQ.sq.sv (plain_sv .sq) true (t ++ [32]) e i ((pre.length : Int) + 1) [] (r := .next) (.inl rfl) (fun k hk => ?_) R (nx .sq true (t ++ [32]) e i hg ?_)
    ·show ev _ _ _ _ ⟨_, lxLed (.str "'") (.str (tx t)) _ _ _ _⟩ _
     exact Eq.mpr (t_sq_bl ..) ⟨rfl, sgAt_s lit_bl, by rw [tx_len]; have := inv.len; simp [escN] at this hlen ⊢; lia, by rw [sn_bl]; exact hk⟩
    ·exact LInv.to trivial (lnS inv.len)
   by_cases h9 : c = 9
   ·subst h9
    replace hg : go r .sq true (t ++ [9]) e (i + 0) = some lr := hg
    rw [Int.add_zero] at hg
    refine lexStep L (.str "\t") LQ.sq.sv (plain_sv .sq) true (t ++ [9]) e i ((pre.length : Int) + 1) [] (r := .next) (.inl rfl) (fun k hk => ?_) R (nx .sq true (t ++ [9]) e i hg ?_)
    ·show ev _ _ _ _ ⟨_, lxLed (.str "'") (.str (tx t)) _ _ _ _⟩ _
     exact Eq.mpr (t_sq_tb ..) ⟨rfl, sgAt_s lit_tb, by rw [tx_len]; have := inv.len; simp [escN] at this hlen ⊢; lia, by rw [sn_tb]; exact hk⟩
    ·exact LInv.to trivial (lnS inv.len)
   by_cases h13 : c = 13
   ·subst h13
    replace hg : go r .sq true (t ++ [13]) e (i + 0) = some lr := hg
    rw [Int.add_zero] at hg
    refine lexStep L (.str "\r") LQ.sq.sv (plain_sv .sq) true (t ++ [13]) e i ((pre.length : Int) + 1) [] (r := .next) (.inl rfl) (fun k hk => ?_) R (nx .sq true (t ++ [13]) e i hg ?_)
    ·show ev _ _ _ _ ⟨_, lxLed (.str "'") (.str (tx t)) _ _ _ _⟩ _
     exact Eq.mpr (t_sq_cr ..) ⟨rfl, sgAt_s lit_cr, by rw [tx_len]; have := inv.len; simp [escN] at this hlen ⊢; lia, by rw [sn_cr]; exact hk⟩
    ·exact LInv.to trivial (lnS inv.len)
   by_cases h39 : c = 39
   ·subst h39
    replace hg : go r .a true t e i = some lr := hg
    refine lexStep L (.str "'") LQ.a.sv (plain_sv .a) true t e i ((pre.length : Int) + 1) [] (r := .next) (.inl rfl) (fun k hk => ?_) R (nx .a true t e i hg ?_)
    ·show ev _ _ _ _ ⟨_, lxLed (.str "'") (.str (tx t)) _ _ _ _⟩ _
     exact Eq.mpr (t_sq_sq ..) ⟨rfl, sgAt_s lit_sq, by exact hk⟩
    ·exact LInv.to trivial (lnT inv.len (escN_le _))
   by_cases h34 : c = 34
   ·subst h34
    replace hg : go r .sq true (t ++ [34]) e (i + 0) = some lr := hg
    rw [Int.add_zero] at hg
    refine lexStep L (.str "\"") LQ.sq.sv (plain_sv .sq) true (t ++ [34]) e i ((pre.length : Int) + 1) [] (r := .next) (.inl rfl) (fun k hk => ?_) R (nx .sq true (t ++ [34]) e i hg ?_)
    ·show ev _ _ _ _ ⟨_, lxLed (.str "'") (.str (tx t)) _ _ _ _⟩ _
     exact Eq.mpr (t_sq_dq ..) ⟨rfl, sgAt_s lit_dq, by rw [tx_len]; have := inv.len; simp [escN] at this hlen ⊢; lia, by rw [sn_dq]; exact hk⟩
    ·exact LInv.to trivial (lnS inv.len)
   by_cases h92 : c = 92
   ·subst h92
    replace hg : go r .sq true (t ++ [92]) e (i + 0) = some lr := hg
    rw [Int.add_zero] at hg
    refine lexStep L (.str "\\") LQ.sq.sv (plain_sv .sq) true (t ++ [92]) e i ((pre.length : Int) + 1) [] (r := .next) (.inl rfl) (fun k hk => ?_) R (nx .sq true (t ++ [92]) e i hg ?_)
    ·show ev _ _ _ _ ⟨_, lxLed (.str "'") (.str (tx t)) _ _ _ _⟩ _
     exact Eq.mpr (t_sq_bs ..) ⟨rfl, sgAt_s lit_bs, by rw [tx_len]; have := inv.len; simp [escN] at this hlen ⊢; lia, by rw [sn_bs]; exact hk⟩
    ·exact LInv.to trivial (lnS inv.len)
   have ho : Other c := ⟨h10, h32, h9, h13, h39, h34, h92⟩
   simp [go, h39, h34, h92, nl, h10] at hg
   cases hW : isW c
   ·have sg := sgAt_o (pre := pre) (r := r) ho
    rw [hW] at sg
    refine lexStep L (.sg c esO (fsO false)) LQ.sq.sv (plain_sv .sq) true (t ++ [c]) e i ((pre.length : Int) + 1) [] (r := .next) (.inl rfl) (fun k hk => ?_) R (nx .sq true (t ++ [c]) e i hg ?_)
    ·show ev _ _ _ _ ⟨_, lxLed (.str "'") (.str (tx t)) _ _ _ _⟩ _
     exact Eq.mpr (t_sq_o_false ..) ⟨rfl, sg, by rw [tx_len]; have := inv.len; simp [escN] at this hlen ⊢; lia, by rw [tx_snoc]; exact hk⟩
    ·exact LInv.to trivial (lnS inv.len)
   ·have sg := sgAt_o (pre := pre) (r := r) ho
    rw [hW] at sg
    refine lexStep L (.sg c esO (fsO true)) LQ.sq.sv (plain_sv .sq) true (t ++ [c]) e i ((pre.length : Int) + 1) [] (r := .next) (.inl rfl) (fun k hk => ?_) R (nx .sq true (t ++ [c]) e i hg ?_)
    ·show ev _ _ _ _ ⟨_, lxLed (.str "'") (.str (tx t)) _ _ _ _⟩ _
     exact Eq.mpr (t_sq_o_true ..) ⟨rfl, sg, by rw [tx_len]; have := inv.len; simp [escN] at this hlen ⊢; lia, by rw [tx_snoc]; exact hk⟩
    ·exact LInv.to trivial (lnS inv.len)
  | dq =>
   by_cases h10 : c = 10
   ·subst h10
    replace hg : go r .dq true (t ++ [10]) e (i + 1) = some lr := hg
    refine lexStep L (.str "\n") LQ.dq.sv (plain_sv .dq) true (t ++ [10]) e (i + 1) ((pre.length : Int) + 1) [] (r := .next) (.inl rfl) (fun k hk => ?_) R (nx .dq true (t ++ [10]) e (i + 1) hg ?_)
    ·show ev _ _ _ _ ⟨_, lxLed (.str "\"") (.str (tx t)) _ _ _ _⟩ _
     exact Eq.mpr (t_dq_nl ..) ⟨rfl, sgAt_s lit_nl, by rw [tx_len]; have := inv.len; simp [escN] at this hlen ⊢; lia, by rw [sn_nl]; exact hk⟩
    ·exact LInv.to trivial (lnS inv.len)
   by_cases h32 : c = 32
   ·subst h32
    replace hg : go r .dq true (t ++ [32]) e (i + 0) = some lr := hg
    rw [Int.add_zero] at hg
    refine lexStep L (.str " ") LQ.dq.sv (plain_sv .dq) true (t ++ [32]) e i ((pre.length : Int) + 1) [] (r := .next) (.inl rfl) (fun k hk => ?_) R (nx .dq true (t ++ [32]) e i hg ?_)
    ·show ev _ _ _ _ ⟨_, lxLed (.str "\"") (.str (tx t)) _ _ _ _⟩ _
     exact Eq.mpr (t_dq_bl ..) ⟨rfl, sgAt_s lit_bl, by rw [tx_len]; have := inv.len; simp [escN] at this hlen ⊢; lia, by rw [sn_bl]; exact hk⟩
    ·exact LInv.to trivial (lnS inv.len)
   by_cases h9 : c = 9
   ·subst h9
    replace hg : go r .dq true (t ++ [9]) e (i + 0) = some lr := hg
    rw [Int.add_zero] at hg
    refine lexStep L (.str "\t") LQ.dq.sv (plain_sv .dq) true (t ++ [9]) e i ((pre.length : Int) + 1) [] (r := .next) (.inl rfl) (fun k hk => ?_) R (nx .dq true (t ++ [9]) e i hg ?_)
    ·show ev _ _ _ _ ⟨_, lxLed (.str "\"") (.str (tx t)) _ _ _ _⟩ _
     exact Eq.mpr (t_dq_tb ..) ⟨rfl, sgAt_s lit_tb, by rw [tx_len]; have := inv.len; simp [escN] at this hlen ⊢; lia, by rw [sn_tb]; exact hk⟩
    ·exact LInv.to trivial (lnS inv.len)
   by_cases h13 : c = 13
   ·subst h13
    replace hg : go r .dq true (t ++ [13]) e (i + 0) = some lr := hg
    rw [Int.add_zero] at hg
    refine lexStep L (.str "\r") LQ.dq.sv (plain_sv .dq) true (t ++ [13]) e i ((pre.length : Int) + 1) [] (r := .next) (.inl rfl) (fun k hk => ?_) R (nx .dq true (t ++ [13]) e i hg ?_)
    ·show ev _ _ _ _ ⟨_, lxLed (.str "\"") (.str (tx t)) _ _ _ _⟩ _
     exact Eq.mpr (t_dq_cr ..) ⟨rfl, sgAt_s lit_cr, by rw [tx_len]; have := inv.len; simp [escN] at this hlen ⊢; lia, by rw [sn_cr]; exact hk⟩
    ·exact LInv.to trivial (lnS inv.len)
   by_cases h39 : c = 39
   ·subst h39
    replace hg : go r .dq true (t ++ [39]) e (i + 0) = some lr := hg
    rw [Int.add_zero] at hg
    refine lexStep L (.str "'") LQ.dq.sv (plain_sv .dq) true (t ++ [39]) e i ((pre.length : Int) + 1) [] (r := .next) (.inl rfl) (fun k hk => ?_) R (nx .dq true (t ++ [39]) e i hg ?_)
    ·show ev _ _ _ _ ⟨_, lxLed (.str "\"") (.str (tx t)) _ _ _ _⟩ _
     exact Eq.mpr (t_dq_sq ..) ⟨rfl, sgAt_s lit_sq, by rw [tx_len]; have := inv.len; simp [escN] at this hlen ⊢; lia, by rw [sn_sq]; exact hk⟩
    ·exact LInv.to trivial (lnS inv.len)
   by_cases h34 : c = 34
   ·subst h34
    replace hg : go r .a true t e i = some lr := hg
    refine lexStep L (.str "\"") LQ.a.sv (plain_sv .a) true t e i ((pre.length : Int) + 1) [] (r := .next) (.inl rfl) (fun k hk => ?_) R (nx .a true t e i hg ?_)
    ·show ev _ _ _ _ ⟨_, lxLed (.str "\"") (.str (tx t)) _ _ _ _⟩ _
     exact Eq.mpr (t_dq_dq ..) ⟨rfl, sgAt_s lit_dq, by exact hk⟩
    ·exact LInv.to trivial (lnT inv.len (escN_le _))
   by_cases h92 : c = 92
   ·subst h92
    replace hg : go r .ed true t "\"" i = some lr := hg
    refine lexStep L (.str "\\") LQ.ed.sv (plain_sv .ed) true t "\"" i ((pre.length : Int) + 1) [] (r := .next) (.inl rfl) (fun k hk => ?_) R (nx .ed true t "\"" i hg ?_)
    ·show ev _ _ _ _ ⟨_, lxLed (.str "\"") (.str (tx t)) _ _ _ _⟩ _
     exact Eq.mpr (t_dq_bs ..) ⟨rfl, sgAt_s lit_bs, by exact hk⟩
    ·exact LInv.to rfl (lnT inv.len (escN_le _))
   have ho : Other c := ⟨h10, h32, h9, h13, h39, h34, h92⟩
   simp [go, h39, h34, h92, nl, h10] at hg
   cases hW : isW c
   ·have sg := sgAt_o (pre := pre) (r := r) ho
    rw [hW] at sg
    refine lexStep L (.sg c esO (fsO false)) LQ.dq.sv (plain_sv .dq) true (t ++ [c]) e i ((pre.length : Int) + 1) [] (r := .next) (.inl rfl) (fun k hk => ?_) R (nx .dq true (t ++ [c]) e i hg ?_)
    ·show ev _ _ _ _ ⟨_, lxLed (.str "\"") (.str (tx t)) _ _ _ _⟩ _
     exact Eq.mpr (t_dq_o_false ..) ⟨rfl, sg, by rw [tx_len]; have := inv.len; simp [escN] at this hlen ⊢; lia, by rw [tx_snoc]; exact hk⟩
    ·exact LInv.to trivial (lnS inv.len)
   ·have sg := sgAt_o (pre := pre) (r := r) ho
    rw [hW] at sg
    refine lexStep L (.sg c esO (fsO true)) LQ.dq.sv (plain_sv .dq) true (t ++ [c]) e i ((pre.length : Int) + 1) [] (r := .next) (.inl rfl) (fun k hk => ?_) R (nx .dq true (t ++ [c]) e i hg ?_)
    ·show ev _ _ _ _ ⟨_, lxLed (.str "\"") (.str (tx t)) _ _ _ _⟩ _
     exact Eq.mpr (t_dq_o_true ..) ⟨rfl, sg, by rw [tx_len]; have := inv.len; simp [escN] at this hlen ⊢; lia, by rw [tx_snoc]; exact hk⟩
    ·exact LInv.to trivial (lnS inv.len)
  | ea =>
   have he := inv.ea rfl
   subst he
   by_cases h10 : c = 10
   ·subst h10
    replace hg : go r .a quoted (t ++ [10]) "a" (i + 1) = some lr := hg
    refine lexStep L (.str "\n") LQ.a.sv (plain_sv .a) quoted (t ++ [10]) "a" (i + 1) ((pre.length : Int) + 1) [] (r := .next) (.inl rfl) (fun k hk => ?_) R (nx .a quoted (t ++ [10]) "a" (i + 1) hg ?_)
    ·show ev _ _ _ _ ⟨_, lxLed (.str "\\") (.str (tx t)) _ _ _ _⟩ _
     exact Eq.mpr (t_es_a_nl ..) ⟨rfl, sgAt_s lit_nl, by rw [tx_len]; have := inv.len; simp [escN] at this hlen ⊢; lia, by rw [sn_nl]; exact hk⟩
    ·exact LInv.to trivial (lnS inv.len)
   by_cases h32 : c = 32
   ·subst h32
    replace hg : go r .a quoted (t ++ [32]) "a" (i + 0) = some lr := hg
    rw [Int.add_zero] at hg
    refine lexStep L (.str " ") LQ.a.sv (plain_sv .a) quoted (t ++ [32]) "a" i ((pre.length : Int) + 1) [] (r := .next) (.inl rfl) (fun k hk => ?_) R (nx .a quoted (t ++ [32]) "a" i hg ?_)
    ·show ev _ _ _ _ ⟨_, lxLed (.str "\\") (.str (tx t)) _ _ _ _⟩ _
     exact Eq.mpr (t_es_a_bl ..) ⟨rfl, sgAt_s lit_bl, by rw [tx_len]; have := inv.len; simp [escN] at this hlen ⊢; lia, by rw [sn_bl]; exact hk⟩
    ·exact LInv.to trivial (lnS inv.len)
   by_cases h9 : c = 9
   ·subst h9
    replace hg : go r .a quoted (t ++ [9]) "a" (i + 0) = some lr := hg
    rw [Int.add_zero] at hg
    refine lexStep L (.str "\t") LQ.a.sv (plain_sv .a) quoted (t ++ [9]) "a" i ((pre.length : Int) + 1) [] (r := .next) (.inl rfl) (fun k hk => ?_) R (nx .a quoted (t ++ [9]) "a" i hg ?_)
    ·show ev _ _ _ _ ⟨_, lxLed (.str "\\") (.str (tx t)) _ _ _ _⟩ _
     exact Eq.mpr (t_es_a_tb ..) ⟨rfl, sgAt_s lit_tb, by rw [tx_len]; have := inv.len; simp [escN] at this hlen ⊢; lia, by rw [sn_tb]; exact hk⟩
    ·exact LInv.to trivial (lnS inv.len)
   by_cases h13 : c = 13
   ·subst h13
    replace hg : go r .a quoted (t ++ [13]) "a" (i + 0) = some lr := hg
    rw [Int.add_zero] at hg
    refine lexStep L (.str "\r") LQ.a.sv (plain_sv .a) quoted (t ++ [13]) "a" i ((pre.length : Int) + 1) [] (r := .next) (.inl rfl) (fun k hk => ?_) R (nx .a quoted (t ++ [13]) "a" i hg ?_)
    ·show ev _ _ _ _ ⟨_, lxLed (.str "\\") (.str (tx t)) _ _ _ _⟩ _
     exact Eq.mpr (t_es_a_cr ..) ⟨rfl, sgAt_s lit_cr, by rw [tx_len]; have := inv.len; simp [escN] at this hlen ⊢; lia, by rw [sn_cr]; exact hk⟩
    ·exact LInv.to trivial (lnS inv.len)
   by_cases h39 : c = 39
   ·subst h39
    replace hg : go r .a quoted (t ++ [39]) "a" (i + 0) = some lr := hg
    rw [Int.add_zero] at hg
    refine lexStep L (.str "'") LQ.a.sv (plain_sv .a) quoted (t ++ [39]) "a" i ((pre.length : Int) + 1) [] (r := .next) (.inl rfl) (fun k hk => ?_) R (nx .a quoted (t ++ [39]) "a" i hg ?_)
    ·show ev _ _ _ _ ⟨_, lxLed (.str "\\") (.str (tx t)) _ _ _ _⟩ _
     exact Eq.mpr (t_es_a_sq ..) ⟨rfl, sgAt_s lit_sq, by rw [tx_len]; have := inv.len; simp [escN] at this hlen ⊢; lia, by rw [sn_sq]; exact hk⟩
    ·exact LInv.to trivial (lnS inv.len)
   by_cases h34 : c = 34
   ·subst h34
    replace hg : go r .a quoted (t ++ [34]) "a" (i + 0) = some lr := hg
    rw [Int.add_zero] at hg
    refine lexStep L (.str "\"") LQ.a.sv (plain_sv .a) quoted (t ++ [34]) "a" i ((pre.length : Int) + 1) [] (r := .next) (.inl rfl) (fun k hk => ?_) R (nx .a quoted (t ++ [34]) "a" i hg ?_)
    ·show ev _ _ _ _ ⟨_, lxLed (.str "\\") (.str (tx t)) _ _ _ _⟩ _
     exact Eq.mpr (t_es_a_dq ..) ⟨rfl, sgAt_s lit_dq, by rw [tx_len]; have := inv.len; simp [escN] at this hlen ⊢; lia, by rw [sn_dq]; exact hk⟩
    ·exact LInv.to trivial (lnS inv.len)
   by_cases h92 : c = 92
   ·subst h92
    replace hg : go r .a quoted (t ++ [92]) "a" (i + 0) = some lr := hg
    rw [Int.add_zero] at hg
    refine lexStep L (.str "\\") LQ.a.sv (plain_sv .a) quoted (t ++ [92]) "a" i ((pre.length : Int) + 1) [] (r := .next) (.inl rfl) (fun k hk => ?_) R (nx .a quoted (t ++ [92]) "a" i hg ?_)
    ·show ev _ _ _ _ ⟨_, lxLed (.str "\\") (.str (tx t)) _ _ _ _⟩ _
     exact Eq.mpr (t_es_a_bs ..) ⟨rfl, sgAt_s lit_bs, by rw [tx_len]; have := inv.len; simp [escN] at this hlen ⊢; lia, by rw [sn_bs]; exact hk⟩
    ·exact LInv.to trivial (lnS inv.len)
   have ho : Other c := ⟨h10, h32, h9, h13, h39, h34, h92⟩
   simp [go, h39, h34, h92, nl, h10] at hg
   cases hW : isW c
   ·have sg := sgAt_o (pre := pre) (r := r) ho
    rw [hW] at sg
    refine lexStep L (.sg c esO (fsO false)) LQ.a.sv (plain_sv .a) quoted (t ++ [c]) "a" i ((pre.length : Int) + 1) [] (r := .next) (.inl rfl) (fun k hk => ?_) R (nx .a quoted (t ++ [c]) "a" i hg ?_)
    ·show ev _ _ _ _ ⟨_, lxLed (.str "\\") (.str (tx t)) _ _ _ _⟩ _
     exact Eq.mpr (t_es_a_o_false ..) ⟨rfl, sg, by rw [tx_len]; have := inv.len; simp [escN] at this hlen ⊢; lia, by rw [tx_snoc]; exact hk⟩
    ·exact LInv.to trivial (lnS inv.len)
   ·have sg := sgAt_o (pre := pre) (r := r) ho
    rw [hW] at sg
    refine lexStep L (.sg c esO (fsO true)) LQ.a.sv (plain_sv .a) quoted (t ++ [c]) "a" i ((pre.length : Int) + 1) [] (r := .next) (.inl rfl) (fun k hk => ?_) R (nx .a quoted (t ++ [c]) "a" i hg ?_)
    ·show ev _ _ _ _ ⟨_, lxLed (.str "\\") (.str (tx t)) _ _ _ _⟩ _
     exact Eq.mpr (t_es_a_o_true ..) ⟨rfl, sg, by rw [tx_len]; have := inv.len; simp [escN] at this hlen ⊢; lia, by rw [tx_snoc]; exact hk⟩
    ·exact LInv.to trivial (lnS inv.len)
  | ed =>
   have he := inv.ed rfl
   subst he
   by_cases h10 : c = 10
   ·subst h10
    replace hg : go r .dq quoted (t ++ [92, 10]) "\"" (i + 1) = some lr := hg
    refine lexStep L (.str "\n") LQ.dq.sv (plain_sv .dq) quoted (t ++ [92, 10]) "\"" (i + 1) ((pre.length : Int) + 1) [] (r := .next) (.inl rfl) (fun k hk => ?_) R (nx .dq quoted (t ++ [92, 10]) "\"" (i + 1) hg ?_)
    ·show ev _ _ _ _ ⟨_, lxLed (.str "\\") (.str (tx t)) _ _ _ _⟩ _
     exact Eq.mpr (t_es_dq_nl ..) ⟨rfl, sgAt_s lit_nl, by rw [tx_len]; have := inv.len; simp [escN] at this hlen ⊢; lia, by rw [sn_bs, tx_len]; have := inv.len; simp [escN] at this hlen ⊢; lia, by rw [sn_bs, sn_nl, List.append_assoc]; exact hk⟩
    ·exact LInv.to trivial (lnD inv.len)
   by_cases h32 : c = 32
   ·subst h32
    replace hg : go r .dq quoted (t ++ [92, 32]) "\"" (i + 0) = some lr := hg
    rw [Int.add_zero] at hg
    refine lexStep L (.str " ") LQ.dq.sv (plain_sv .dq) quoted (t ++ [92, 32]) "\"" i ((pre.length : Int) + 1) [] (r := .next) (.inl rfl) (fun k hk => ?_) R (nx .dq quoted (t ++ [92, 32]) "\"" i hg ?_)
    ·show ev _ _ _ _ ⟨_, lxLed (.str "\\") (.str (tx t)) _ _ _ _⟩ _
     exact Eq.mpr (t_es_dq_bl ..) ⟨rfl, sgAt_s lit_bl, by rw [tx_len]; have := inv.len; simp [escN] at this hlen ⊢; lia, by rw [sn_bs, tx_len]; have := inv.len; simp [escN] at this hlen ⊢; lia, by rw [sn_bs, sn_bl, List.append_assoc]; exact hk⟩
    ·exact LInv.to trivial (lnD inv.len)
   by_cases h9 : c = 9
   ·subst h9
    replace hg : go r .dq quoted (t ++ [92, 9]) "\"" (i + 0) = some lr := hg
    rw [Int.add_zero] at hg
    refine lexStep L (.str "\t") LQ.dq.sv (plain_sv .dq) quoted (t ++ [92, 9]) "\"" i ((pre.length : Int) + 1) [] (r := .next) (.inl rfl) (fun k hk => ?_) R (nx .dq quoted (t ++ [92, 9]) "\"" i hg ?_)
    ·show ev _ _ _ _ ⟨_, lxLed (.str "\\") (.str (tx t)) _ _ _ _⟩ _
     exact Eq.mpr (t_es_dq_tb ..) ⟨rfl, sgAt_s lit_tb, by rw [tx_len]; have := inv.len; simp [escN] at this hlen ⊢; lia, by rw [sn_bs, tx_len]; have := inv.len; simp [escN] at this hlen ⊢; lia, by rw [sn_bs, sn_tb, List.append_assoc]; exact hk⟩
    ·exact LInv.to trivial (lnD inv.len)
   by_cases h13 : c = 13
   ·subst h13
    replace hg : go r .dq quoted (t ++ [92, 13]) "\"" (i + 0) = some lr := hg
    rw [Int.add_zero] at hg
    refine lexStep L (.str "\r") LQ.dq.sv (plain_sv .dq) quoted (t ++ [92, 13]) "\"" i ((pre.length : Int) + 1) [] (r := .next) (.inl rfl) (fun k hk => ?_) R (nx .dq quoted (t ++ [92, 13]) "\"" i hg ?_)
    ·show ev _ _ _ _ ⟨_, lxLed (.str "\\") (.str (tx t)) _ _ _ _⟩ _
     exact Eq.mpr (t_es_dq_cr ..) ⟨rfl, sgAt_s lit_cr, by rw [tx_len]; have := inv.len; simp [escN] at this hlen ⊢; lia, by rw [sn_bs, tx_len]; have := inv.len; simp [escN] at this hlen ⊢; lia, by rw [sn_bs, sn_cr, List.append_assoc]; exact hk⟩
    ·exact LInv.to trivial (lnD inv.len)
   by_cases h39 : c = 39
   ·subst h39
    replace hg : go r .dq quoted (t ++ [92, 39]) "\"" (i + 0) = some lr := hg
    rw [Int.add_zero] at hg
    refine lexStep L (.str "'") LQ.dq.sv (plain_sv .dq) quoted (t ++ [92, 39]) "\"" i ((pre.length : Int) + 1) [] (r := .next) (.inl rfl) (fun k hk => ?_) R (nx .dq quoted (t ++ [92, 39]) "\"" i hg ?_)
    ·show ev _ _ _ _ ⟨_, lxLed (.str "\\") (.str (tx t)) _ _ _ _⟩ _
     exact Eq.mpr (t_es_dq_sq ..) ⟨rfl, sgAt_s lit_sq, by rw [tx_len]; have := inv.len; simp [escN] at this hlen ⊢; lia, by rw [sn_bs, tx_len]; have := inv.len; simp [escN] at this hlen ⊢; lia, by rw [sn_bs, sn_sq, List.append_assoc]; exact hk⟩
    ·exact LInv.to trivial (lnD inv.len)
   by_cases h34 : c = 34
   ·subst h34
    replace hg : go r .dq quoted (t ++ [34]) "\"" (i + 0) = some lr := hg
    rw [Int.add_zero] at hg
    refine lexStep L (.str "\"") LQ.dq.sv (plain_sv .dq) quoted (t ++ [34]) "\"" i ((pre.length : Int) + 1) [] (r := .next) (.inl rfl) (fun k hk => ?_) R (nx .dq quoted (t ++ [34]) "\"" i hg ?_)
    ·show ev _ _ _ _ ⟨_, lxLed (.str "\\") (.str (tx t)) _ _ _ _⟩ _
     exact Eq.mpr (t_es_dq_dq ..) ⟨rfl, sgAt_s lit_dq, by rw [tx_len]; have := inv.len; simp [escN] at this hlen ⊢; lia, by rw [sn_dq]; exact hk⟩
    ·exact LInv.to trivial (lnS inv.len)
   by_cases h92 : c = 92
   ·subst h92
    replace hg : go r .dq quoted (t ++ [92]) "\"" (i + 0) = some lr := hg
    rw [Int.add_zero] at hg
    refine lexStep L (.str "\\") LQ.dq.sv (plain_sv .dq) quoted (t ++ [92]) "\"" i ((pre.length : Int) + 1) [] (r := .next) (.inl rfl) (fun k hk => ?_) R (nx .dq quoted (t ++ [92]) "\"" i hg ?_)
    ·show ev _ _ _ _ ⟨_, lxLed (.str "\\") (.str (tx t)) _ _ _ _⟩ _
     exact Eq.mpr (t_es_dq_bs ..) ⟨rfl, sgAt_s lit_bs, by rw [tx_len]; have := inv.len; simp [escN] at this hlen ⊢; lia, by rw [sn_bs]; exact hk⟩
    ·exact LInv.to trivial (lnS inv.len)
   have ho : Other c := ⟨h10, h32, h9, h13, h39, h34, h92⟩
   simp [go, h39, h34, h92, nl, h10] at hg
   cases hW : isW c
   ·have sg := sgAt_o (pre := pre) (r := r) ho
    rw [hW] at sg
    refine lexStep L (.sg c esO (fsO false)) LQ.dq.sv (plain_sv .dq) quoted (t ++ [92, c]) "\"" i ((pre.length : Int) + 1) [] (r := .next) (.inl rfl) (fun k hk => ?_) R (nx .dq quoted (t ++ [92, c]) "\"" i hg ?_)
    ·show ev _ _ _ _ ⟨_, lxLed (.str "\\") (.str (tx t)) _ _ _ _⟩ _
     exact Eq.mpr (t_es_dq_o_false ..) ⟨rfl, sg, by rw [tx_len]; have := inv.len; simp [escN] at this hlen ⊢; lia, by rw [sn_bs, tx_len]; have := inv.len; simp [escN] at this hlen ⊢; lia, by rw [sn_bs, tx_snoc, List.append_assoc]; exact hk⟩
    ·exact LInv.to trivial (lnD inv.len)
   ·have sg := sgAt_o (pre := pre) (r := r) ho
    rw [hW] at sg
    refine lexStep L (.sg c esO (fsO true)) LQ.dq.sv (plain_sv .dq) quoted (t ++ [92, c]) "\"" i ((pre.length : Int) + 1) [] (r := .next) (.inl rfl) (fun k hk => ?_) R (nx .dq quoted (t ++ [92, c]) "\"" i hg ?_)
    ·show ev _ _ _ _ ⟨_, lxLed (.str "\\") (.str (tx t)) _ _ _ _⟩ _
     exact Eq.mpr (t_es_dq_o_true ..) ⟨rfl, sg, by rw [tx_len]; have := inv.len; simp [escN] at this hlen ⊢; lia, by rw [sn_bs, tx_len]; have := inv.len; simp [escN] at this hlen ⊢; lia, by rw [sn_bs, tx_snoc, List.append_assoc]; exact hk⟩
    ·exact LInv.to trivial (lnD inv.len)
end
theorem t_none_end (P : Params) (e : SV) (b : Str) (i p : Int) (k : Kt) : ev (cfR P rdEnd) 60 (fScope s700).names (.sts rtBody) { loc := [("self", .obj 0), ("quoted", .bool false), ("escapedstate", e)], led := lxLed .none (.str "") i b p [] } k = (sio b p = sio b p ∧ (b.length : Int) ≤ p ∧ k .brk { loc := [("self", .obj 0), ("quoted", .bool false), ("escapedstate", e), ("nextchar", .str "")], led := lxLed .none (.str "") i b p [] }) := by
 kernel_rfl
structure LexE where
 q : SV
 quoted : Bool
 tok : Str
 e : Str
 line : Int
 p : Int
inductive LexC : St → Str → LexE → Prop
 | run {pre rest : List Nat} {i : Int} {lr : LR} : go rest .sp false [] " " i = some lr → (pre ++ rest).length ≤ sizeLine →
   LexC (lst LQ.sp.sv false [] " " i (tx (pre ++ rest)) pre.length) (tx (pre ++ rest)) ⟨svq lr.q, lr.quoted, tx lr.tok, lr.e, lr.line, ((pre ++ rest).length - lr.rest.length : Nat)⟩
 | off {pre : List Nat} {i : Int} : pre.length ≤ sizeLine → LexC (lst .none false [] " " i (tx pre) pre.length) (tx pre) ⟨.none, false, tx [], " ", i, pre.length⟩
noncomputable def rtW : Stmt := stAt 2 (fBody s700)
noncomputable def wPos : Stmt → Pos
 | .While _ _ _ p => p
 | _ => default
noncomputable def lexHk (b : Str) (x : LexE) : HkE Stmt := ⟨(wPos rtW).line, (wPos rtW).col, 80, rtW, fun ns st k => ns = (fScope s700).names ∧ LexC st b x ∧ k .next ⟨[("self", .obj 0), ("quoted", .bool x.quoted), ("escapedstate", .str x.e)], lxLed x.q (.str x.tok) x.line b x.p []⟩⟩
theorem rtW_eq : rtW = .While rtTest rtBody [] (wPos rtW) := by kernel_rfl
theorem lexHk_ok {w : World} {C : Cf} (hK : C.K = KK w.params) (hC : C.known = true) (b : Str) (x : LexE) : HsOk w C (lexHk b x) := by
 intro F E ads st s k Q ok hd hu h R T
 obtain ⟨hn, hc, hk⟩ := h
 have L : LexOk w F := ⟨hn, fm_same (by rw [hK]; rfl) ok (by first | exact fun _ => rfl | exact fun _ => by assumption | exact fun h => h), by have : (lexHk b x).d = 80 := rfl; lia, by have : (lexHk b x).d = 80 := rfl; lia⟩
 show Goal w F (.st rtW) Q E s
 rw [rtW_eq]
 refine wpAny_While ?_
 cases hc with
 | run hg hl =>
  rename_i pre rest i lr
  refine lexLoop L rest pre .sp false [] " " i lr ads s hg ⟨fun _ => ⟨rfl, rfl⟩, (fun h => by cases h), (fun h => by cases h), by simp [escN]⟩ hl R fun z s' R' nx => ?_
  exact T .next _ ⟨[], z⟩ (.fl .next) s' hk R' nx trivial
 | off hl =>
  rename_i pre i
  refine lexEnd L .none trivial false [] " " i pre.length [] (fun k hk => ?_) R (fun z s' R' nx => ?_)
  ·show ev _ _ _ _ ⟨_, lxLed .none (.str (tx [])) _ _ _ _⟩ _
   rw [← lit_em, t_none_end]
   exact ⟨rfl, by rw [tx_len]; simp, by rw [lit_em]; exact hk⟩
  ·exact T .next _ ⟨[], z⟩ (.fl .next) s' hk R' nx trivial
noncomputable def s693 : Stmt := stAt 5 (clsBody (stAt 22 B01))
noncomputable def f693 : FnE := ⟨693, 1, ["self"], [], fBody s693, fScope s693, "shlex.get_token", .ref 692, []⟩
noncomputable def f700 : FnE := ⟨700, 1, ["self"], [], fBody s700, fScope s700, "shlex.read_token", .ref 699, []⟩
theorem fok693 (P : Params) : FnOk (KK P) f693 := FnOk.of (by kernel_rfl) (by kernel_rfl) ⟨_, _, _, _, (by kernel_rfl : (KK P).lookup 693 = some (o693 P)), rfl, rfl, fun _ _ => rfl, rfl, rfl, fun s vs X h => by
 obtain ⟨a, rfl⟩ := len1 h
 exact BindsTo.of_eq (by kernel_rfl)⟩
theorem fok700 (P : Params) : FnOk (KK P) f700 := FnOk.of (by kernel_rfl) (by kernel_rfl) ⟨_, _, _, _, (by kernel_rfl : (KK P).lookup 700 = some (o700 P)), rfl, rfl, fun _ _ => rfl, rfl, rfl, fun s vs X h => by
 obtain ⟨a, rfl⟩ := len1 h
 exact BindsTo.of_eq (by kernel_rfl)⟩
noncomputable def cfT (P : Params) (b : Str) (x : LexE) : Cf where
 K := KK P
 globs := g01
 fns := [f693, f700]
 cls := [c597, c732]
 hss := [lexHk b x]
theorem cokT (w : World) (b : Str) (x : LexE) : CfOk w (cfT w.params b x) where
 fns := mem_cons' ⟨fok693 _, by kernel_rfl, noCell_sound (by kernel_rfl)⟩ <| mem_cons' ⟨fok700 _, by kernel_rfl, noCell_sound (by kernel_rfl)⟩ <| mem_nil
 cls := mem_cons' (cok597 _) <| mem_cons' (cok732 _) <| mem_nil
 globs := globs_of (gok01 _)
 sps := mem_nil
 hxs := mem_nil
 hss := mem_cons' (lexHk_ok rfl rfl b x) mem_nil
noncomputable def s729 : Stmt := stAt 10 (clsBody (stAt 22 B01))
noncomputable def f729 : FnE := ⟨729, 1, ["self"], [], fBody s729, fScope s729, "shlex.__next__", .ref 728, []⟩
theorem fok729 (P : Params) : FnOk (KK P) f729 := FnOk.of (by kernel_rfl) (by kernel_rfl) ⟨_, _, _, _, (by kernel_rfl : (KK P).lookup 729 = some (o729 P)), rfl, rfl, fun _ _ => rfl, rfl, rfl, fun s vs X h => by
 obtain ⟨a, rfl⟩ := len1 h
 exact BindsTo.of_eq (by kernel_rfl)⟩
theorem nx_ev (P : Params) (b b0 : Str) (x : LexE) (q : SV) (i p : Int) (k : Kt) : ev (cfT P b x) 130 (fScope s729).names (.sts (fBody s729)) { loc := [("self", .obj 0)], led := lxLed q (.str "") i b0 p [] } k =
   (rtW = rtW ∧ (fScope s700).names = (fScope s700).names ∧ LexC { loc := [("self", .obj 0), ("quoted", .bool false), ("escapedstate", .str " ")], led := lxLed q (.str "") i b0 p [] } b x ∧
     ifT (!x.quoted) (ifT (Fast.sEq x.tok "") False
        (k (.ret (.str x.tok)) { loc := [("self", .obj 0), ("token", .str x.tok)], led := lxLed x.q (.str "") x.line b x.p [] }))
      (k (.ret (.str x.tok)) { loc := [("self", .obj 0), ("token", .str x.tok)], led := lxLed x.q (.str "") x.line b x.p [] })) := by
  kernel_rfl
noncomputable def ifTest : Stmt → Expr
 | .If t _ _ _ => t
 | _ => default
noncomputable def ifPos : Stmt → Pos
 | .If _ _ _ p => p
 | _ => default
noncomputable def raPos : Stmt → Pos
 | .Raise _ _ p => p
 | _ => default
noncomputable def raNm : Stmt → Pos
 | .Raise (some (.Name _ p)) _ _ => p
 | _ => default
noncomputable def ifBody : Stmt → List Stmt
 | .If _ b _ _ => b
 | _ => []
noncomputable def nxIf : Stmt := stAt 1 (fBody s729)
theorem nx_body : fBody s729 = stAt 0 (fBody s729) :: .If (ifTest nxIf) [.Raise (some (.Name "StopIteration" (raNm (stAt 0 (ifBody nxIf))))) none (raPos (stAt 0 (ifBody nxIf)))] [] (ifPos nxIf) :: (fBody s729).drop 2 := by kernel_rfl
theorem nx_ev0 (P : Params) (b b0 : Str) (x : LexE) (q : SV) (i p : Int) (k : Kt) : ev (cfT P b x) 130 (fScope s729).names (.st (stAt 0 (fBody s729))) { loc := [("self", .obj 0)], led := lxLed q (.str "") i b0 p [] } k =
   (rtW = rtW ∧ (fScope s700).names = (fScope s700).names ∧ LexC { loc := [("self", .obj 0), ("quoted", .bool false), ("escapedstate", .str " ")], led := lxLed q (.str "") i b0 p [] } b x ∧
     ifT (!x.quoted) (ifT (Fast.sEq x.tok "") (k .next { loc := [("self", .obj 0), ("token", .none)], led := lxLed x.q (.str "") x.line b x.p [] })
        (k .next { loc := [("self", .obj 0), ("token", .str x.tok)], led := lxLed x.q (.str "") x.line b x.p [] }))
      (k .next { loc := [("self", .obj 0), ("token", .str x.tok)], led := lxLed x.q (.str "") x.line b x.p [] })) := by
  kernel_rfl
theorem nx_ev1 (P : Params) (b b0 : Str) (x : LexE) (q : SV) (i p : Int) (k : Kt) : ev (cfT P b x) 130 (fScope s729).names (.tr (ifTest nxIf)) { loc := [("self", .obj 0), ("token", .none)], led := lxLed q (.str "") i b0 p [] } k =
   k (.b true) { loc := [("self", .obj 0), ("token", .none)], led := lxLed q (.str "") i b0 p [] } := by
  kernel_rfl
theorem okLx {q : SV} {t b : Str} {i p : Int} (hq : plainSV q) : okL 4 (lxLed q (.str t) i b p []) := by
 have h4 := okV_of (n := 4) hq
 have e1 : ∀ k, k < 4 → okV 4 (.obj k) := fun k h => h
 refine ⟨?_, ?_, trivial, trivial, trivial⟩
 ·exact ⟨e1 1 (by lia), trivial, trivial, trivial, trivial, trivial, trivial, trivial, trivial, trivial, trivial, h4, e1 2 (by lia), trivial, trivial, trivial, e1 3 (by lia), trivial, trivial, trivial⟩
 ·exact ⟨trivial, trivial, trivial, trivial⟩
theorem sosLx {q : SV} {t b : Str} {i p : Int} {extra : List SO} (hq : plainSV q) : SosT 4 (lxLed q (.str t) i b p extra) ((lxLed q (.str t) i b p extra).take 4) (lxLed q (.str t) i b p []) :=
 (trimLx (loc := []) (more := []) hq trivial).led
section
variable {w : World} {F : Fm} {A : Around} {ads : Wd} {st : St} {s : Shared} {b : Str} {x : LexE} {q : SV} {i p : Int} {led₂ : List SO} {v : Value} {Rr : Result → Shared → Prop}
noncomputable abbrev lex0 (q : SV) (i : Int) (b : Str) (p : Int) : St := { loc := [("self", .obj 0), ("quoted", .bool false), ("escapedstate", .str " ")], led := lxLed q (.str "") i b p [] }
theorem more_nil {ads more : Wd} {st st' : St} {h h' : Heap} (R : Rep w F ads st h) (R' : Rep w F (ads ++ more) st' h') (e : st'.led.length = st.led.length) : ∃ z, more = ⟨[], z⟩ := by
 obtain ⟨m, news, lw, X⟩ := R
 obtain ⟨m', news', lw', X'⟩ := R'
 have h1 := X.led.length
 have h2 := X'.led.length
 rw [Wd.ads_append, List.length_append] at h2
 obtain ⟨a, z⟩ := more
 have : a = [] := List.eq_nil_of_length_eq_zero (by dsimp only at h2; lia)
 subst this
 exact ⟨z, rfl⟩
theorem next_tok (ok : FmOk (cfT w.params b x) F) (hA : A.frames = some F.stk) (hh : A.handled = none) (hd : A.depth + 1 + 130 < recursionLimit) (hu : A.units + 3 + 8 * 130 < cLine) (R : Rep w F ads st s.heap) (dv : Den F.B ads (.obj 0) v)
  (hled : st.led = lxLed q (.str "") i b p [] ++ led₂) (hq : plainSV q) (hc : LexC (lex0 q i b p) b x) (hxq : plainSV x.q) (ht : x.quoted = true ∨ Fast.sEq x.tok "" = false)
  (T : ∀ z s' u, Rep w F (ads ++ (⟨[], z⟩ : Wd)) ⟨st.loc, lxLed x.q (.str "") x.line b x.p [] ++ led₂⟩ s'.heap → Nx F s s' → Den F.B (ads ++ (⟨[], z⟩ : Wd)) (.str x.tok) u → Rr (.ok (.ret u)) s') :
  codeAny (model prog w) A (.call (.ref 729) ⟨[v], []⟩) Rr s := by
 refine call_sub (e := f729) (n := 130) (k := fun r st' => r = .v (.str x.tok) ∧ st' = ⟨st.loc, lxLed x.q (.str "") x.line b x.p [] ++ led₂⟩) (Q := fun c s' => ∃ u, c = .v u ∧ Rr (.ok (.ret u)) s') (svs := [.obj 0]) (sound (cokT w b x) 130) (fok729 _) ok (fun _ => hA) hh hd hu R (.cons dv .nil) rfl hled (okLx hq) (fun y hy => by rw [List.mem_singleton.mp hy]; show 0 < 4; lia) List.nodup_nil ?_ ?_ ?_
 ·show ev (cfT w.params b x) 130 (fScope s729).names (.sts (fBody s729)) { loc := [("self", .obj 0)], led := lxLed q (.str "") i b p [] } _
  rw [nx_ev]
  have fin : ∃ x' y led', (SR.ret (.str x.tok) = .ret x' ∨ (SR.ret (.str x.tok) = .next ∧ x' = .none)) ∧ SvT 4 (lxLed x.q (.str "") x.line b x.p []) x' y ∧ SosT 4 (lxLed x.q (.str "") x.line b x.p []) ((lxLed x.q (.str "") x.line b x.p []).take 4) led' ∧ (SR.v y = .v (.str x.tok) ∧ (⟨st.loc, led' ++ led₂⟩ : St) = ⟨st.loc, lxLed x.q (.str "") x.line b x.p [] ++ led₂⟩) :=
   ⟨.str x.tok, .str x.tok, _, .inl rfl, .same trivial, sosLx hxq, rfl, rfl⟩
  refine ⟨rfl, rfl, hc, ?_⟩
  cases hqq : x.quoted with
  | true => exact fin
  | false =>
   rcases ht with h | h
   ·rw [hqq] at h; cases h
   ·rw [h]; exact fin
 ·intro r st' more c s' hk R' nx d
  obtain ⟨rfl, rfl⟩ := hk
  cases c with
  | v u =>
   refine ⟨u, rfl, ?_⟩
   obtain ⟨z, rfl⟩ := more_nil R R' (by rw [hled]; rfl)
   exact T z s' u R' nx d
  | _ => exact d.elim
 ·rintro u s' ⟨_, e, h⟩; cases e; exact h
theorem next_stop (ok : FmOk (cfT w.params b x) F) (hA : A.frames = some F.stk) (hh : A.handled = none) (hd : A.depth + 1 + 130 < recursionLimit) (hu : A.units + 3 + 8 * 130 < cLine) (R : Rep w F ads st s.heap) (dv : Den F.B ads (.obj 0) v)
  (hled : st.led = lxLed q (.str "") i b p [] ++ led₂) (hq : plainSV q) (hc : LexC (lex0 q i b p) b x) (hxq : plainSV x.q) (ht : x.quoted = false ∧ Fast.sEq x.tok "" = true)
  (T : ∀ z s' e, Rep w F (ads ++ (⟨[], z⟩ : Wd)) ⟨st.loc, lxLed x.q (.str "") x.line b x.p [] ++ led₂⟩ s'.heap → Nx F s s' → (∃ o, s'.heap.get? e = some o ∧ o.cls = .type "StopIteration") → Rr (.error (.ref e)) s') :
  codeAny (model prog w) A (.call (.ref 729) ⟨[v], []⟩) Rr s := by
 refine enter_sub (e := f729) (svs := [.obj 0]) (fok729 _) ok (fun _ => hA) hh (by omega) R (.cons dv .nil) rfl hled (okLx hq) (fun y hy => by rw [List.mem_singleton.mp hy]; show 0 < 4; omega) List.nodup_nil fun F' W Wc h₁ t ok' eA eS eB eT eZ eL R0' back bv => ?_
 have R' := wc_nil eZ eL R0'
 have eN : F'.sc.names = (fScope s729).names := by rw [eS]; rfl
 have dd : F'.A.depth + 130 < recursionLimit := by rw [eA]; show A.depth + 1 + 130 < _; omega
 have uu : F'.A.units + 8 * 130 < cLine := by rw [eA]; show A.units + 3 + 8 * 130 < _; omega
 have sn := sound (cokT w b x) 130
 have cv : ∀ {a b : Shared}, NxB F'.quiet a b → NxB F.quiet a b := fun {a b} q => by rw [← eT.2.1]; exact q
 show wpAny (model prog w) F'.A (execs (fBody s729) F'.env) _ _ _
 rw [nx_body]
 let st1 : St := ⟨[("self", .obj 0), ("token", .none)], lxLed x.q (.str "") x.line b x.p []⟩
 refine wpAny_execs_cons (wpAny_mono (sn F' (fun _ _ => False) (.st (stAt 0 (fBody s729))) _ (fun r st' => r = .next ∧ st' = st1) W _ (fun c s' => c = .fl .next ∧ ∃ z, Rep w F' (W ++ (⟨[], z⟩ : Wd)) st1 s'.heap ∧ Nx F s s') ok' dd uu ?_ R' ?_) (fun f s₁ hf => ?_) fun _ _ h => h.elim)
 ·rw [eN]
  show ev (cfT w.params b x) 130 (fScope s729).names (.st (stAt 0 (fBody s729))) { loc := [("self", .obj 0)], led := lxLed q (.str "") i b p [] } _
  rw [nx_ev0]
  refine ⟨rfl, rfl, hc, ?_⟩
  rw [ht.1, ht.2]
  exact ⟨rfl, rfl⟩
 ·rintro r st₁ m1 c s₁ ⟨rfl, rfl⟩ R₁ x₁ d₁
  obtain ⟨z1, rfl⟩ := more_nil R' R₁ rfl
  cases c with
  | fl f =>
   cases f <;> try exact d₁.elim
   exact ⟨rfl, z1, R₁, (Nx.mk' s h₁ t).trans (cv x₁)⟩
  | _ => exact d₁.elim
 obtain ⟨e, z1, R₁, x₁⟩ := hf
 cases e
 dsimp only
 refine wpAny_execs_cons (wpAny_If (wpAny_mono (sn F' (fun _ _ => False) (.tr (ifTest nxIf)) _ (fun r st' => r = .b true ∧ st' = st1) _ _ (fun c s' => c = .b true ∧ ∃ z, Rep w F' (W ++ (⟨[], z⟩ : Wd)) st1 s'.heap ∧ Nx F s s') ok' dd uu ?_ R₁ ?_) (fun f s₂ hf => ?_) fun _ _ h => h.elim))
 ·rw [eN, nx_ev1]; exact ⟨rfl, rfl⟩
 ·rintro r st₂ m2 c s₂ ⟨rfl, rfl⟩ R₂ x₂ d₂
  obtain ⟨z2, rfl⟩ := more_nil R₁ R₂ rfl
  cases c with
  | b c =>
   cases d₂
   refine ⟨rfl, z1 ++ z2, ?_, x₁.trans (cv x₂)⟩
   have e1 : (W ++ (⟨[], z1⟩ : Wd)) ++ (⟨[], z2⟩ : Wd) = W ++ (⟨[], z1 ++ z2⟩ : Wd) := by rw [Wd.append_assoc]; rfl
   rw [← e1]; exact R₂
  | _ => exact d₂.elim
 obtain ⟨e, z2, R₂, x₂⟩ := hf
 cases e
 rw [if_pos rfl]
 obtain ⟨mg, mb, G1, G2, G3⟩ := ok'.G.ns
 have R₂' := R₂
 obtain ⟨m, news, lw, X⟩ := R₂'
 refine wpAny_execs_cons (owsi_raiseC ok'.hand (ldB ok' X.fr G1 (mg_none_of ok'.X G1 (by kernel_rfl)) G2 ((G3 "StopIteration" (by decide +kernel)).trans (by kernel_rfl)) ⟨rfl, rfl⟩ (by show F'.sc.names.lookup _ = _; rw [eN, ← nmKind_eq]; kernel_rfl) (by decide)) fun h' e hm => ?_)
 refine rep_leave (hkn := rfl) (h := s₂.heap) (cls := .type "StopIteration") (args := []) eT.1 ok' R₂ ⟨hm.keeps, hm.new, hm.there⟩ fun h'' R₃ ho => ?_
 exact T z2 _ e (back _ _ _ _ R₃) (x₂.trans (Nx.of_gens rfl rfl rfl)) ho
end
inductive LexAll (b : Str) : SV → Int → Int → List Str → Prop
 | stop {q : SV} {i p : Int} {x : LexE} : plainSV q → plainSV x.q → LexC (lex0 q i b p) b x → x.quoted = false → Fast.sEq x.tok "" = true → LexAll b q i p []
 | tok {q : SV} {i p : Int} {x : LexE} {toks : List Str} : plainSV q → plainSV x.q → LexC (lex0 q i b p) b x → (x.quoted = true ∨ Fast.sEq x.tok "" = false) → LexAll b x.q x.line x.p toks → LexAll b q i p (x.tok :: toks)
noncomputable def cfK (P : Params) : Cf where
 K := KK P
 globs := []
 fns := []
 cls := []
noncomputable def s722 : Stmt := stAt 9 (clsBody (stAt 22 B01))
noncomputable def f722 : FnE := ⟨722, 1, ["self"], [], fBody s722, fScope s722, "shlex.__iter__", .ref 721, []⟩
theorem fok722 (P : Params) : FnOk (KK P) f722 := FnOk.of (by kernel_rfl) (by kernel_rfl) ⟨_, _, _, _, (by kernel_rfl : (KK P).lookup 722 = some (o722 P)), rfl, rfl, fun _ _ => rfl, rfl, rfl, fun s vs X h => by
 obtain ⟨a, rfl⟩ := len1 h
 exact BindsTo.of_eq (by kernel_rfl)⟩
theorem it_ev (P : Params) (st : List SO) (k : Kt) : ev (cfK P) 10 (fScope s722).names (.sts (fBody s722)) { loc := [("self", .obj 0)], led := st } k = k (.ret (.obj 0)) { loc := [("self", .obj 0)], led := st } := by kernel_rfl
theorem cokK (w : World) : CfOk w (cfK w.params) := ⟨mem_nil, mem_nil, (fun x v h => nomatch h), mem_nil, mem_nil, mem_nil⟩
section
variable {w : World} {F : Fm} {A : Around} {b : Str} {E : Value → Shared → Prop}
theorem Wd.two (W : Wd) (z1 z2 : List (Addr × Obj)) : (W ++ (⟨[], z1⟩ : Wd)) ++ (⟨[], z2⟩ : Wd) = W ++ (⟨[], z1 ++ z2⟩ : Wd) := by rw [Wd.append_assoc]; rfl
theorem lexInst {ads : Wd} {st : St} {s : Shared} {q : SV} {i p : Int} {led₂ : List SO} (R : Rep w F ads st s.heap) (hled : st.led = lxLed q (.str "") i b p [] ++ led₂) {a : Addr} (da : Den F.B ads (.obj 0) (.ref a)) :
  ∃ m ox od, Fr F.h₀ F.L s.heap m ∧ PySem.W.InstAt s.heap a ox 732 od := by
 obtain ⟨m, news, lw, X⟩ := R
 obtain ⟨pre, post, a', dd, es, n, h1, e, he, I, _⟩ := rep_inst X (i := 0) (by rw [hled]; rfl) da
 cases e
 exact ⟨m, _, _, X.fr, I⟩
theorem next_any {Q : Option Value → Shared → Prop} {ads : Wd} {st : St} {s : Shared} {q : SV} {i p : Int} {x : LexE} {led₂ : List SO} {a : Addr} (ok : FmOk (cfK w.params) F) (hA : A.frames = some F.stk) (hh : A.handled = none) (hd : A.depth + 1 + 130 < recursionLimit) (hu : A.units + 3 + 8 * 130 < cLine)
  (R : Rep w F ads st s.heap) (da : Den F.B ads (.obj 0) (.ref a)) (hled : st.led = lxLed q (.str "") i b p [] ++ led₂) (hq : plainSV q) (hc : LexC (lex0 q i b p) b x) (hxq : plainSV x.q)
  (tok : (x.quoted = true ∨ Fast.sEq x.tok "" = false) → ∀ z s' u, Rep w F (ads ++ (⟨[], z⟩ : Wd)) ⟨st.loc, lxLed x.q (.str "") x.line b x.p [] ++ led₂⟩ s'.heap → Nx F s s' → Den F.B (ads ++ (⟨[], z⟩ : Wd)) (.str x.tok) u → Q (some u) s')
  (stop : (x.quoted = false ∧ Fast.sEq x.tok "" = true) → ∀ z s', Rep w F (ads ++ (⟨[], z⟩ : Wd)) ⟨st.loc, lxLed x.q (.str "") x.line b x.p [] ++ led₂⟩ s'.heap → Nx F s s' → Q none s') :
  wpAny (model prog w) A (pyNext (.ref a)) Q E s := by
 obtain ⟨m, ox, od, fr, I⟩ := lexInst R hled da
 have ok' : FmOk (cfT w.params b x) F := fm_same (C := cfK w.params) (C' := cfT w.params b x) rfl ok (by first | exact fun _ => rfl | exact fun _ => by assumption | exact fun h => h)
 refine owit_next (f := 729) fr ok.X I (by kernel_rfl) (by kernel_rfl) (wpAny_call ?_)
 by_cases ht : x.quoted = true ∨ Fast.sEq x.tok "" = false
 ·exact next_tok ok' hA hh hd hu R da hled hq hc hxq ht fun z s' u R' nx d => tok ht z s' u R' nx d
 ·have ht' : x.quoted = false ∧ Fast.sEq x.tok "" = true := by
   constructor
   ·cases hb : x.quoted with
    | false => rfl
    | true => exact absurd (.inl hb) ht
   ·cases hb : Fast.sEq x.tok "" with
    | true => rfl
    | false => exact absurd (.inr hb) ht
  refine next_stop ok' hA hh hd hu R da hled hq hc hxq ht' fun z s' e R' nx ho => ?_
  show OwitStop _ _ _ _ _ _
  unfold OwitStop
  refine wpAny_isInstance (show s'.TypeIs (.ref e) "StopIteration" from ho) owsi_facts.sub ?_
  rw [if_pos rfl]
  exact stop ht' z s' R' nx
theorem ext_loop {R : Result → Shared → Prop} {aS aL : Addr} {res : Value} (ok : FmOk (cfK w.params) F) (hA : A.frames = some F.stk) (hh : A.handled = none) (hd : A.depth + 1 + 130 < recursionLimit) (hu : A.units + 1 + 3 + 8 * 130 < cLine) :
  ∀ {q : SV} {i p : Int} {toks : List Str}, LexAll b q i p toks → ∀ {ads : Wd} {st : St} {s : Shared} {ys : List SV}, st.led = lxLed q (.str "") i b p [] ++ [.list ys] → ys.length + toks.length ≤ sizeLine → Rep w F ads st s.heap → Den F.B ads (.obj 0) (.ref aL) → Den F.B ads (.obj 4) (.ref aS) →
   (∀ z s' q' i' p', Rep w F (ads ++ (⟨[], z⟩ : Wd)) ⟨st.loc, lxLed q' (.str "") i' b p' [] ++ [.list (ys ++ toks.map .str)]⟩ s'.heap → Nx F s s' → plainSV q' → R (.ok (.ret res)) s') →
   codeAny (model prog w) A (.builtin "list.extend.loop" ⟨[.ref aS, .ref aL, res], []⟩) R s := by
 intro q i p toks hL
 induction hL with
 | stop hq hxq hc h1 h2 =>
  rename_i q i p x
  intro ads st s ys hled hlen Rp dL dS fin
  refine codeAny_builtin PySem.F.entry_extend_loop ?_
  rw [Around.under_plainId PySem.F.plain_extend_loop _]
  show wpAny _ A.in1 (pyNext (.ref aL) >>= _) _ _ s
  refine wpAny_bind (next_any (A := A.in1) ok hA hh (by show A.depth + 1 + 130 < _; lia) (by show A.units + 1 + 3 + 8 * 130 < _; lia) Rp dL hled hq hc hxq (fun h => ?_) fun _ z s' R' nx => ?_)
  ·rcases h with h | h
   ·rw [h1] at h; cases h
   ·rw [h2] at h; cases h
  ·exact wpAny_pure (fin z s' _ _ _ (by rw [List.map_nil, List.append_nil]; exact R') nx hxq)
 | tok hq hxq hc h1 hr ih =>
  rename_i q i p x toks
  intro ads st s ys hled hlen Rp dL dS fin
  refine codeAny_builtin PySem.F.entry_extend_loop ?_
  rw [Around.under_plainId PySem.F.plain_extend_loop _]
  show wpAny _ A.in1 (pyNext (.ref aL) >>= _) _ _ s
  refine wpAny_bind (next_any (A := A.in1) ok hA hh (by show A.depth + 1 + 130 < _; lia) (by show A.units + 1 + 3 + 8 * 130 < _; lia) Rp dL hled hq hc hxq (fun _ z s' u R' nx du => ?_) fun h => ?_)
  ·obtain ⟨a, vs, n, e, ho, D, upd⟩ := rep_list R' (i := 4) (xs := ys) rfl dS.mono
   cases e
   show wpAny _ A.in1 (updateSeq aS (·.push u) >>= _) _ _ _
   have lv := D.length
   have hlen' : ys.length + (toks.length + 1) ≤ sizeLine := hlen
   refine wpAny_bind (wpAny_updateSeq ho rfl (wpAny_pure ⟨plainId_quiet PySem.F.plain_extend_loop _, ?_⟩) (by simp; lia) (by simp; lia))
   have ho' := Heap.get?_update_self (Obj.mapSeq (·.push u)) ho rfl
   have R'' := upd (s'.heap.update aS (Obj.mapSeq (·.push u))) (ys ++ [.str x.tok]) (vs ++ [u]) n.succ (by rw [ho']; simp [Obj.mapSeq]) (fun b hb o q => (Heap.get?_update_other _ _ (Ne.symm hb)).trans q) (D.append (.cons du .nil))
   refine ih (ads := ads ++ (⟨[], z⟩ : Wd)) (st := ⟨st.loc, lxLed x.q (.str "") x.line b x.p [] ++ [.list (ys ++ [.str x.tok])]⟩) rfl (by simp; lia) R'' dL.mono dS.mono fun z2 s₂ q' i' p' R₂ nx₂ hq' => ?_
   rw [Wd.two] at R₂
   refine fin (z ++ z2) s₂ q' i' p' ?_ (nx.trans ((Nx.mk' s' _ s'.toks).trans nx₂)) hq'
   simpa using R₂
  ·rcases h1 with h1 | h1
   ·rw [h.1] at h1; cases h1
   ·rw [h.2] at h1; cases h1
theorem den_ref {B : Heap} {W : Wd} {i : Nat} {v : Value} (d : Den B W (.obj i) v) : ∃ a, v = .ref a := let ⟨p, _, e⟩ := d; ⟨p.1, e⟩
theorem iter_self {Q : Value → Shared → Prop} {ads : Wd} {st : St} {s : Shared} {q : SV} {i p : Int} {led₂ : List SO} {a : Addr} (ok : FmOk (cfK w.params) F) (hA : A.frames = some F.stk) (hh : A.handled = none) (hd : A.depth + 1 + 10 < recursionLimit) (hu : A.units + 3 + 8 * 10 < cLine)
  (R : Rep w F ads st s.heap) (da : Den F.B ads (.obj 0) (.ref a)) (hled : st.led = lxLed q (.str "") i b p [] ++ led₂) (hq : plainSV q)
  (fin : ∀ z s', Rep w F (ads ++ (⟨[], z⟩ : Wd)) st s'.heap → Nx F s s' → Q (.ref a) s') :
  wpAny (model prog w) A (pyIter (.ref a)) Q E s := by
 obtain ⟨m, ox, od, fr, I⟩ := lexInst R hled da
 refine owit_iter (f := 722) fr ok.X I (by kernel_rfl) (by kernel_rfl) (wpAny_call ?_)
 refine call_sub (e := f722) (n := 10) (k := fun r st' => r = .v (.obj 0) ∧ st' = st) (Q := fun c s' => ∃ u, c = .v u ∧ OwitIt (model prog w) A Q E u s') (svs := [.obj 0]) (sound (cokK w) 10) (fok722 _) ok (fun _ => hA) hh hd hu R (.cons da .nil) rfl hled (okLx hq) (fun y hy => by rw [List.mem_singleton.mp hy]; show 0 < 4; lia) List.nodup_nil ?_ ?_ ?_
 ·show ev (cfK w.params) 10 (fScope s722).names (.sts (fBody s722)) { loc := [("self", .obj 0)], led := lxLed q (.str "") i b p [] } _
  rw [it_ev]
  exact ⟨.obj 0, .obj 0, _, .inl rfl, .keep (by show 0 < 4; lia), sosLx hq, rfl, by rw [← hled]⟩
 ·intro r st' more c s' hk R' nx d
  obtain ⟨rfl, rfl⟩ := hk
  cases c with
  | v u =>
   obtain ⟨z, rfl⟩ := more_nil R R' rfl
   have : u = .ref a := by
    obtain ⟨p1, h1, e1⟩ := da
    obtain ⟨p2, h2, e2⟩ := d
    rw [Wd.ads_append, List.append_nil, h1] at h2
    cases h2
    exact e2.trans e1.symm
   subst this
   obtain ⟨m, ox, od, fr, I⟩ := lexInst R' hled da.mono
   exact ⟨_, rfl, owit_it (g := .ref 729) fr ok.X I (by kernel_rfl) (fin z s' R' nx)⟩
  | _ => exact d.elim
 ·rintro u s' ⟨_, e, h⟩; cases e; exact h
theorem list_lex {Q : Value → Shared → Prop} {ads : Wd} {st : St} {s : Shared} {q : SV} {i p : Int} {toks : List Str} {v : Value} (ok : FmOk (cfK w.params) F) (hd : F.A.depth + 1 + 130 < recursionLimit) (hu : F.A.units + 3 + 3 + 8 * 130 < cLine)
  (hL : LexAll b q i p toks) (hlen : toks.length ≤ sizeLine) (hq : plainSV q) (R : Rep w F ads st s.heap) (da : Den F.B ads (.obj 0) v) (hled : st.led = lxLed q (.str "") i b p [])
  (fin : ∀ more s' u q' i' p', Rep w F (ads ++ more) ⟨st.loc, lxLed q' (.str "") i' b p' [.list (toks.map .str)]⟩ s'.heap → Nx F s s' → Den F.B (ads ++ more) (.obj 4) u → Q u s') :
  wpAny (model prog w) F.A (call (.type "list") [v]) Q E s := by
 obtain ⟨a, rfl⟩ := den_ref da
 refine callType_codes (Q₁ := fun obj s₁ => obj = .ref s.heap.objs.size ∧ s₁ = { s with heap := s.heap.push { cls := .type "list", data := .seq #[] } }) PySem.F.called_list (PySem.F.typeCall_list_1 _) PySem.F.entry_list_init
  (code_list_new _ ⟨rfl, rfl⟩) fun obj s₁ h₁ => ?_
 obtain ⟨rfl, rfl⟩ := h₁
 have hS : (s.heap.push { cls := .type "list", data := .seq #[] }).get? s.heap.objs.size = some { cls := .type "list", data := .seq #[] } := Heap.get?_push_size _ rfl
 have R1 : Rep w F (ads ++ .one s.heap.objs.size 0) ⟨st.loc, lxLed q (.str "") i b p [] ++ [.list []]⟩ (s.heap.push { cls := .type "list", data := .seq #[] }) := by
  have := rep_push (o := { cls := .type "list", data := .seq #[] }) (so := .list []) rfl R (One.list (vs := []) (n := 0) .nil)
  rw [hled] at this; exact this
 have d4 : Den F.B (ads ++ .one s.heap.objs.size 0) (.obj 4) (.ref s.heap.objs.size) := by
  refine ⟨(s.heap.objs.size, 0), ?_, rfl⟩
  have := at_end ads s.heap.objs.size 0
  rw [← led_len R, hled] at this; exact this
 have hne : s.heap.objs.size ≠ a := by
  intro e
  obtain ⟨m, ox, od, fr, I⟩ := lexInst (led₂ := []) R (by rw [hled, List.append_nil]) da
  have := Heap.lt_size I.at_
  rw [e] at this
  exact Nat.lt_irrefl _ this
 refine ⟨⟨_, hS, rfl⟩, PySem.F.args_list_init_2 _ _, ?_⟩
 show wpAny _ F.A.in1.in1 (do let old ← Builtin.List.listItems (.ref s.heap.objs.size); Builtin.List.listUpdate (.ref s.heap.objs.size) (fun _ => #[]); letGo old.toList.reverse; Builtin.List.listExtendWith (.ref s.heap.objs.size) (.ref a) .none) _ _ _
 refine wpAny_bind ?_
 unfold Builtin.List.listItems
 refine wpAny_bind (wpAny_seqItems hS rfl (wpAny_pure ?_))
 refine wpAny_bind (wpAny_updateSeq hS rfl ?_)
 refine wpAny_bind (wpAny_letGo ?_)
 -- the list is empty still
 obtain ⟨a', vs, n, e, ho, D, upd⟩ := rep_list R1 (i := 4) (xs := []) rfl d4
 cases e
 cases D
 have hS₂ := Heap.get?_update_self (Obj.mapSeq (fun _ => (#[] : Array Value))) ho rfl
 have R2 := upd (((s.heap.push { cls := .type "list", data := .seq #[] }).update s.heap.objs.size (Obj.mapSeq (fun _ => (#[] : Array Value))))) [] [] _ hS₂ (fun b hb o q => (Heap.get?_update_other _ _ (Ne.symm hb)).trans q) .nil
 obtain ⟨m, ox, od, fr, I⟩ := lexInst (s := { s with heap := ((s.heap.push { cls := .type "list", data := .seq #[] }).update s.heap.objs.size (Obj.mapSeq (fun _ => (#[] : Array Value)))) }) R2 rfl da.mono
 unfold Builtin.List.listExtendWith
 refine wpAny_bind (I.type.here ?_)
 have h1 : Builtin.List.listSameRef (.ref s.heap.objs.size) (.ref a) = false := by simp [Builtin.List.listSameRef, hne]
 have h2 : (Value.ref 732 == Value.type "list") = false := by decide
 have h3 : (Value.ref 732 == Value.type "tuple") = false := by decide
 simp only [h1, h2, h3, Bool.or_false, Bool.false_eq_true, if_false]
 refine wpAny_bind (iter_self (A := F.A.in1.in1) ok (ok.stack rfl) ok.hand (by show F.A.depth + 1 + 10 < _; lia) (by show F.A.units + 1 + 1 + 3 + 8 * 10 < _; lia) R2 da.mono rfl hq fun z3 s₃ R3 nx3 => ?_)
 obtain ⟨m3, ox3, od3, fr3, I3⟩ := lexInst R3 rfl da.mono.mono
 refine wpAny_bind (wpAny_holding ?_)
 unfold Builtin.List.listLengthHint
 refine wpAny_bind (wpAny_bind (I3.type.here ((looks_findIn (K := KK w.params) (ok.X.keeps fr3.keep) (name := "__len__") (r := none) (by kernel_rfl)).here ?_)))
 show wpAny _ F.A.in1.in1 (specialOf (Value.ref a) (Str.ofString "__length_hint__") >>= _) _ _ _
 refine wpAny_bind (wpAny_bind (I3.type.here ((looks_findIn (K := KK w.params) (ok.X.keeps fr3.keep) (name := "__length_hint__") (r := none) (by kernel_rfl)).here ?_)))
 refine wpAny_pure ?_
 show wpAny _ F.A.in1.in1 (rule "list.extend.makes-room" >>= fun _ => Builtin.List.listTouch (.ref s.heap.objs.size) >>= fun _ =>
  again (.builtin "list.extend.loop" ⟨[.ref s.heap.objs.size, .ref a, .none], []⟩)) _ _ _
 refine wpAny_bind (wpAny_rule ?_)
 obtain ⟨a4, vs4, n4, e4, ho4, D4, upd4⟩ := rep_list R3 (i := 4) (xs := []) rfl d4.mono
 cases e4
 cases D4
 refine wpAny_bind ?_
 show wpAny _ F.A.in1.in1 (updateSeq s.heap.objs.size (·.push .none) >>= fun _ => updateSeq s.heap.objs.size (·.pop)) _ _ _
 refine wpAny_bind (wpAny_updateSeq ho4 rfl ?_)
 have hS₅ := Heap.get?_update_self (Obj.mapSeq (·.push Value.none)) ho4 rfl
 refine wpAny_updateSeq hS₅ rfl ?_
 have hS₆ := Heap.get?_update_self (Obj.mapSeq (·.pop)) hS₅ rfl
 have R4 := upd4 _ [] [] _ hS₆ (fun b hb o q => (Heap.get?_update_other _ _ (Ne.symm hb)).trans ((Heap.get?_update_other _ _ (Ne.symm hb)).trans q)) .nil
 refine wpAny_pure ⟨plainId_quiet PySem.F.plain_extend_loop _, ?_⟩
 refine ext_loop (A := F.A.in1) ok (ok.stack rfl) ok.hand (by show F.A.depth + 1 + 130 < _; lia) (by show F.A.units + 1 + 1 + 3 + 8 * 130 < _; lia) hL (s := { s₃ with heap := _ }) rfl (by simpa using hlen) R4 da.mono.mono d4.mono fun z5 s₅ q' i' p' R5 nx5 hq' => ⟨rfl, ?_⟩
 rw [Wd.append_assoc, Wd.append_assoc] at R5
 refine fin _ s₅ _ q' i' p' R5 (((Nx.mk' s _ s.toks).trans nx3).trans ((Nx.mk' s₃ _ s₃.toks).trans nx5)) ?_
 have := (d4.mono (more := ⟨[], z3⟩)).mono (more := ⟨[], z5⟩)
 rw [Wd.append_assoc, Wd.append_assoc] at this
 exact this
end
section
variable {w : World} {h : Heap}
theorem sio_madeBy (X : (KK w.params).In h) : Looks (model prog w) h (Bind.madeBy (.ref 597)) none := Looks.of_peek X (by kernel_rfl)
theorem sio_mro (X : (KK w.params).In h) : Looks (model prog w) h (mroOf (.ref 597)) [.ref 597, .ref 120, .ref 93, .type "object"] := Looks.of_peek X (by kernel_rfl)
theorem sio_self (X : (KK w.params).In h) : Looks (model prog w) h (isSubtype (.ref 597) (.ref 597)) true := Looks.of_peek X (by kernel_rfl)
theorem sio_call (X : (KK w.params).In h) : Looks (model prog w) h (specialOf (.ref 597) "__call__") (some (.builtin "type.__call__")) := Looks.of_peek X (by kernel_rfl)
theorem sio_typ (X : (KK w.params).In h) : Looks (model prog w) h (isInstance (.ref 597) (.type "type")) true := Looks.of_peek X (by kernel_rfl)
theorem sio_init (X : (KK w.params).In h) : Looks (model prog w) h (typeLookup (.ref 597) "__init__") (some (.ref 367)) := Looks.of_peek X (by kernel_rfl)
theorem sio_isType (X : (KK w.params).In h) : Looks (model prog w) h (isType (.ref 597)) true := Looks.of_peek X (by kernel_rfl)
theorem sio_checked (X : (KK w.params).In h) : Looks (model prog w) h (checkBuiltinCall "object.__new__" ⟨[.ref 597], []⟩) () := Looks.of_peek X (by kernel_rfl)
theorem sio_here (X : (KK w.params).In h) : Looks (model prog w) h (Bind.madeHere "object.__new__" (.ref 597)) () := Looks.of_peek X (by kernel_rfl)
theorem sio_data (X : (KK w.params).In h) : ∃ oc od cd sl, h.get? 597 = some ⟨oc, od, .cls cd, sl⟩ ∧ cd.abstract = false ∧ cd.hasDel = false := ⟨_, _, _, _, X _ _ (by kernel_rfl : (KK w.params).lookup 597 = some (o597 w.params)), rfl, rfl⟩
end
section
variable {w : World} {A : Around} {R : Result → Shared → Prop} {h : Heap} {g : Array GenState} {d : Drawn} {t : Nat} {os : OsState}
theorem sio_alloc (X : (KK w.params).In h) (hq : R (.ok (.ret (.ref (h.objs.size + 1)))) ⟨(h.push emptyDict).push (instObj 597 h.objs.size), g, d, t, os⟩) :
  codeAny (model prog w) A (.call (.builtin "object.__new__") ⟨[.ref 597], []⟩) R ⟨h, g, d, t, os⟩ := by
 obtain ⟨oc, od, cd, sl, hC, e1, e2⟩ := sio_data X
 have F := PySem.F.objNew
 refine codeAny_call_builtin_code (Code.quiet_builtin _ F.quiet) ((sio_checked X).at ?_)
 refine codeAny_builtin F.entry ?_
 unfold Builtin.«object.__new__»
 have it := sio_isType X
 have here := sio_here X
 have hC' := Heap.get?_push_of_some (instObj 597 (h.push emptyDict).objs.size.pred) (Heap.get?_push_of_some emptyDict hC)
 have fin : ∀ A', wpAny (model prog w) A' (do
   let d ← if typeHasDict (.ref 597) then some <$> alloc { cls := .type "dict", data := .dict #[] } else pure none
   ret (← newObj (.ref 597) .plain d)) (fun fin s' => match fin with | .done f => R (.ok f) s' | .again c' => c'.quiet = true ∧ codeAny (model prog w) A c' R s') (fun e s' => R (.error e) s') ⟨h, g, d, t, os⟩ := by
  intro A'
  show wpAny _ _ ((alloc emptyDict >>= fun x => pure (some x)) >>= _) _ _ _
  refine wpAny_bind (wpAny_bind (wpAny_alloc (wpAny_pure (wpAny_bind ?_))))
  show wpAny _ _ (newObjAsIs _ _ _) _ _ _
  unfold newObjAsIs classHasDel
  refine wpAny_bind (wpAny_alloc (wpAny_bind (wpAny_bind (wpAny_load (Heap.get?_push_of_some _ (Heap.get?_push_of_some _ hC)) (wpAny_pure ?_)))))
  rw [e2]
  refine wpAny_pure (wpAny_pure ?_)
  show R _ _
  rw [Heap.size_push]
  exact hq
 repeat (first | simp only [e1, Bool.false_eq_true, if_false] | exact fin _ | lk)
end
theorem new_eq : ∃ p1 p2 p3 p4 p5 p6 p7 p8 p9 p10 p11 p12 p13 b, fBody s90 = [.If (.BoolOp .And [.Compare (.Name "cls" p1) [.IsNot] [.Name "BytesIO" p2] p3, .Compare (.Name "cls" p4) [.IsNot] [.Name "StringIO" p5] p6] p7) b [] p8,
  .Return (some (.Call (.Attribute (.Name "object" p9) "__new__" p10) [.Name "cls" p11] [] p12)) p13] ∧ (p10.endLine == p12.line) = true ∧ behindInMarks .IsNot (.Name "BytesIO" p2) = false ∧ behindInMarks .IsNot (.Name "StringIO" p5) = false :=
 let a := stAt 0 (fBody s90); let c := stAt 1 (fBody s90); let e := sEx a; let f := sEx c
 ⟨kp e [0, 0], kp e [0, 1], kp e [0], kp e [1, 0], kp e [1, 1], kp e [1], kp e [], a.pos, kp f [0, 0], kp f [0], kp f [1], kp f [], c.pos, sBo a, by kernel_rfl, by kernel_rfl, by kernel_rfl, by kernel_rfl⟩
noncomputable def gN : List (Str × Value) := [("BytesIO", .ref 350), ("StringIO", .ref 597), ("object", .type "object")]
theorem gokN (P : Params) : ∀ p ∈ gN, GlobAt (KK P) p :=
 mem_cons' ⟨by kernel_rfl, .inl (by kernel_rfl)⟩ <| mem_cons' ⟨by kernel_rfl, .inl (by kernel_rfl)⟩ <| mem_cons' ⟨by kernel_rfl, .inr ⟨by kernel_rfl, by kernel_rfl, by kernel_rfl⟩⟩ <| mem_nil
noncomputable def cfN (P : Params) : Cf where
 K := KK P
 globs := gN
 fns := []
 cls := []
theorem cokN (w : World) : CfOk w (cfN w.params) := ⟨mem_nil, mem_nil, globs_of (gokN _), mem_nil, mem_nil, mem_nil⟩
section
variable {w : World} {C : Cf} {F : Fm} {ads : Wd} {s : Shared} {st : St} {E : Value → Shared → Prop}
theorem nm_loc {x : Str} {p : Pos} {v : Value} {Q : Value → Shared → Prop} (ok : FmOk C F) (hk : nmKind x F.sc.names = some .local) (hv : lk x st.loc = some (.val v)) (hdb : Fast.sEq x "__debug__" = false)
  (R : Rep w F ads st s.heap) (q : Q v s) : wpAny (model prog w) F.A (eval (.Name x p) F.env) Q E s := by
 rw [nmKind_eq] at hk
 obtain ⟨m, news, lw, u, X, a, b⟩ := rep_local R hv
 obtain ⟨rfl, _⟩ := b
 exact ldE ok X.fr hk a q (by rw [beq_sEq]; exact hdb)
theorem nm_glob {x : Str} {p : Pos} {v : Value} {Q : Value → Shared → Prop} (cok : CfOk w C) (ok : FmOk C F) (hk : nmKind x F.sc.names = some .globalImplicit) (hv : lk x C.globs = some v) (hdb : Fast.sEq x "__debug__" = false)
  (R : Rep w F ads st s.heap) (q : Q v s) : wpAny (model prog w) F.A (eval (.Name x p) F.env) Q E s := by
 rw [nmKind_eq] at hk
 have hdb' : (x == ("__debug__" : Str)) = false := by rw [beq_sEq]; exact hdb
 obtain ⟨m, news, lw, X⟩ := R
 obtain ⟨d, g⟩ := cok.globs x v hv
 obtain ⟨mg, mb, G1, G2, G3⟩ := ok.G.ns
 rcases g with g | ⟨g, g', g''⟩
 ·exact ldG ok X.fr G1 (mg_of ok.X G1 g) q hk hdb'
 ·exact ldB ok X.fr G1 (mg_none_of ok.X G1 g) G2 ((G3 x g'').trans g') q hk hdb'
theorem nw0 : typeOf (.type "object") = pure (.type "type") := by kernel_rfl
theorem nw1 : Manifest.isStub "object" = false := by decide +kernel
theorem nw2 (P : Params) : PySem.W.findCls (KK P) (.type "object") (.type "type") "__new__" = some (PySem.W.CFound.val (.builtin "object.__new__")) := by kernel_rfl
theorem nw3 : handedIn (.builtin "object.__new__") = true := by rfl
theorem new_method {Q : Value × List Value → Shared → Prop} {pl : Sem Bool} (ok : FmOk (cfN w.params) F) (R : Rep w F ads st s.heap) (q : Q (.builtin "object.__new__", []) { s with toks := s.toks + 1 }) :
  wpAny (model prog w) F.A (getMethod (.type "object") "__new__" pl) Q E s := by
 obtain ⟨m, news, lw, X⟩ := R
 have XK : (KK w.params).In F.h₀ := ok.X
 have XF := X.fr
 have e2 := nw2 w.params
 clear X ok
 revert XK e2
 generalize KK w.params = K
 intro XK e2
 exact @method_type prog w F.A E s K F.L F.h₀ m "__new__" (.builtin "object.__new__") "object" pl Q XF XK nw0 nw1 e2 nw3 q
theorem bind90 (v : Value) : bindArgs (fnOf "__new__" "IOBase.__new__" (fArgs s90) (fBody s90) (fScope s90) .none .none .none (.str "io" 371) none (.ref 89) .none) ⟨[.ref 597, v], []⟩ =
  (newTuple [v] >>= fun tp => alloc { cls := .type "dict", data := .dict #[] } >>= fun d => pure ([("cls", .ref 597), ("args", tp), ("kwargs", .ref d)] : List (Str × Value))) := by kernel_rfl
noncomputable def f90 : FnE := ⟨90, 1, ["cls"], [], fBody s90, fScope s90, "IOBase.__new__", .ref 89, []⟩
theorem fok90 (P : Params) : FnOk0 (KK P) f90 := by
 have h : fnChk f90 = true := by kernel_rfl
 unfold fnChk at h
 simp only [Bool.and_eq_true, Bool.not_eq_true'] at h
 obtain ⟨h0, h1, h2, h3, h4, h5, h6, h7, h8⟩ := h
 refine ⟨⟨_, _, _, _, (by kernel_rfl : (KK P).lookup 90 = some (o90 P)), rfl, rfl, fun _ _ => rfl, rfl, rfl⟩, allCell_sound h0, (by kernel_rfl), fun n => (cellsFrom_names f90.scope.names n 0 [] [] rfl).trans (strsEq_eq h1), h5, h6, ?_⟩
 unfold kindFn at h7
 split at h7
 ·assumption
 ·cases h7
theorem new90 {A : Around} {v : Value} {Rr : Result → Shared → Prop} (ok : FmOk (cfN w.params) F) (hA : A.frames = some F.stk) (hh : A.handled = none) (hd : A.depth + 1 < recursionLimit)
  (R : Rep w F ads st s.heap) (fin : ∀ z h', Rep w F (ads ++ (⟨[], z⟩ : Wd)) st h' → ∀ t, Rr (.ok (.ret (.ref (h'.objs.size + 1)))) { s with heap := (h'.push emptyDict).push (instObj 597 h'.objs.size), toks := t }) :
  codeAny (model prog w) A (.call (.ref 90) ⟨[.ref 597, v], []⟩) Rr s := by
 refine enter_gen (e := f90) (C := cfN w.params) (loc₀ := [("cls", .val (.ref 597))]) (led₁ := []) (led₂ := st.led) (fok90 _) ok (fun _ => hA) hh (by lia) R rfl trivial ⟨trivial, trivial⟩ List.nodup_nil (fun oc od osl fd g1 XK M A E Q hQ => ?_) fun F' W Wc h₁ t ok' eA eS eB eT eZ eL R0' back bv => ?_
 ·have e : (KK w.params).lookup 90 = some (o90 w.params) := by kernel_rfl
  have e' := e.symm.trans g1
  cases e'
  show wpAny M A (bindArgs (fnOf "__new__" "IOBase.__new__" (fArgs s90) (fBody s90) (fScope s90) .none .none .none (.str "io" 371) none (.ref 89) .none) ⟨[.ref 597, v], []⟩) Q E s
  rw [bind90]
  refine wpAny_bind (wpAny_newTuple (wpAny_bind (wpAny_alloc (wpAny_pure ?_))) (by show 1 ≤ sizeLine; decide))
  refine hQ _ _ (fun b o q => Heap.get?_push_of_some _ (Heap.get?_push_of_some _ q)) (fun x hx => ?_) (by show (["cls", "args", "kwargs"] : List Str).Nodup; exact ndB_sound (by kernel_rfl)) (fun x sv hx => ?_) fun x _ hc => absurd hc List.not_mem_nil
  ·have hk : ∀ x ∈ (["cls", "args", "kwargs"] : List Str), f90.scope.names.lookup x = some .local ∨ (f90.scope.names.lookup x = some .cell ∧ x ∈ f90.cells) := allLC_sound (by kernel_rfl)
   refine hk x.1 ?_
   rcases List.mem_cons.mp hx with rfl | hx
   ·exact .head _
   rcases List.mem_cons.mp hx with rfl | hx
   ·exact .tail _ (.head _)
   rw [List.mem_singleton.mp hx]
   exact .tail _ (.tail _ (.head _))
  ·unfold lk at hx
   split at hx
   ·rename_i q
    cases hx
    rw [sEq_true q]
    exact ⟨_, .head _, rfl, rfl⟩
   ·cases hx
 ·have R' := wc_nil eZ eL R0'
  have eN : F'.sc.names = (fScope s90).names := by rw [eS]; rfl
  show wpAny (model prog w) F'.A (execs (fBody s90) F'.env) _ _ _
  obtain ⟨p1, p2, p3, p4, p5, p6, p7, p8, p9, p10, p11, p12, p13, b, e, hp, hb1, hb2⟩ := new_eq
  rw [e]
  have XK : (KK w.params).In h₁ := rep_K (s := { s with heap := h₁ }) ok' R'
  have cok := cokN w
  have nCls : nmKind "cls" F'.sc.names = some .local := by rw [eN]; kernel_rfl
  have nB : nmKind "BytesIO" F'.sc.names = some .globalImplicit := by rw [eN]; kernel_rfl
  have nS : nmKind "StringIO" F'.sc.names = some .globalImplicit := by rw [eN]; kernel_rfl
  have nO : nmKind "object" F'.sc.names = some .globalImplicit := by rw [eN]; kernel_rfl
  have R2 : Rep w F' W ⟨[("cls", .val (.ref 597))], []⟩ ({ s with heap := h₁, toks := t } : Shared).heap := R'
  refine wpAny_execs_cons (wpAny_If (isTrue_and (wpAny_isTrue_Compare1 (nm_loc ok' nCls rfl (by kernel_rfl) R2 (nm_glob cok ok' nB (by kernel_rfl) (by kernel_rfl) R2 (wpAny_isNot_ref_other (by decide) (XK _ _ (by kernel_rfl : (KK w.params).lookup 597 = some (o597 w.params))) (XK _ _ (by kernel_rfl : (KK w.params).lookup 350 = some (o350 w.params))) (by show (Value.type "type") ≠ .type "tuple"; decide) (wpAny_truthy_bool ?_)))) hb1)))
  show wpAny _ _ (PySem.isTrue (.BoolOp .And [_] _) _ _) _ _ _
  refine isTrue_and (wpAny_isTrue_Compare1 (nm_loc ok' nCls rfl (by kernel_rfl) R2 (nm_glob cok ok' nS (by kernel_rfl) (by kernel_rfl) R2 (wpAny_isNot_ref_self (wpAny_truthy_bool ?_)))) hb2)
  show wpAny _ _ (execs [] _) _ _ _
  refine wpAny_execs_nil ?_
  refine wpAny_execs_cons (wpAny_Return_some (MethodCall_ (nm_glob cok ok' nO (by kernel_rfl) (by kernel_rfl) R2 (new_method ok' R2 ?_)) (mcall_eq (by unfold mcOk; rw [hp]; rfl))))
  refine callWith_plain (fun a e => nomatch e) rfl (spliced_more (nm_loc ok' nCls rfl (by kernel_rfl) (s := { s with heap := h₁, toks := t + 1 }) R2 (spliced_none (wpAny_call ?_))) rfl)
  refine sio_alloc XK ?_
  have := fin [] h₁ (by have := back [] _ _ _ (by rw [show W ++ (⟨[], []⟩ : Wd) = W from Wd.append_nil W]; exact R'); exact this) (t + 1)
  exact this
end
set_option maxHeartbeats 1000000
section
variable {w : World} {F : Fm} {ads : Wd} {s : Shared} {st : St} {E : Value → Shared → Prop}
theorem looks_stat {M : Model} {h : Heap} {c : Addr} (st : ∃ o, h.get? cStatics = some o ∧ lookIn "thirdparty.any" o = some none) : Looks M h (opaqueClassAbove (.ref c)) none := by
 obtain ⟨o, ho, e⟩ := st
 have l : Looks M h (nsGet cStatics "thirdparty.any") none := by
  intro A Q E s k q
  refine wpAny_bind (wpAny_loadPart (k _ _ ho) ?_)
  rw [nsLook_of e]
  exact wpAny_pure q
 exact Looks.andThen (a := false) (l.andThen .now) (by show Looks M h (if (!false) = true then pure none else _) none; rw [if_pos (show (!false) = true from rfl)]; exact .now)
theorem rep_stat {C : Cf} (ok : FmOk C F) (R : Rep w F ads st s.heap) : ∃ o, s.heap.get? cStatics = some o ∧ lookIn "thirdparty.any" o = some none := by
 obtain ⟨m, news, lw, X⟩ := R
 obtain ⟨o, a, b⟩ := ok.G.stat
 exact ⟨o, X.fr.keep _ _ a, b⟩
theorem sm1 (P : Params) : PySem.W.findCls (KK P) (.ref 597) (.type "type") "__new__" = some (PySem.W.CFound.get (.builtin "staticmethod.__get__") (.ref 94) .none (.ref 597)) := by kernel_rfl
theorem sm2 (P : Params) : findIn (KK P) (.type "type") "__getattribute__" = some (some (.builtin "type.__getattribute__")) := by kernel_rfl
theorem sm3 (P : Params) : (if onTheHeap (.type "type") then findIn (KK P) (.type "type") "__getattr__" else some none) = some none := by kernel_rfl
theorem sm4 (P : Params) : subIn (KK P) (.type "type") (.type "type") = some true := by kernel_rfl
theorem sm5 (P : Params) : recIn (KK P) 94 "staticmethod" = some [.ref 90] := by kernel_rfl
theorem sm6 (P : Params) : typeIn (KK P) (.ref 597) = some (.type "type") := by kernel_rfl
theorem sio_getnew {A : Around} {expr : Bool} {Q : Value → Shared → Prop} (X : (KK w.params).In s.heap) (hs : ∃ o, s.heap.get? cStatics = some o ∧ lookIn "thirdparty.any" o = some none) (h : Q (.ref 90) { s with toks := s.toks + 1 }) : wpAny (model prog w) A (getAttr (.ref 597) "__new__" expr) Q E s :=
 cls_open X (looks_stat hs) (looks_typeIn X (sm6 _)) (sm2 _) (looks_hook X (sm3 _)) (sm4 _) (sm1 _) (wpAny_bind (wpAny_holding (wpAny_mono (wpAny_call (sm_get (s := { s with toks := s.toks + 1 }) X (sm5 _) (handed_on (E := E) rfl h))) (fun _ _ z => wpAny_pure z) fun _ _ z => z)))
end
section
variable {w : World} {F : Fm} {ads : Wd} {s : Shared} {st : St} {E : Value → Shared → Prop} {A : Around} {Rr : Result → Shared → Prop}
theorem sio_make {v : Value} (ok : FmOk (cfN w.params) F) (hA : A.frames = some F.stk) (hh : A.handled = none) (hd : A.depth + 2 < recursionLimit) (R : Rep w F ads st s.heap)
  (fin : ∀ z h' t, Rep w F (ads ++ (⟨[], z⟩ : Wd)) st h' → codeAny (model prog w) (A.under (.builtin "type.__call__" ⟨[.ref 597, v], []⟩)) (.call (.ref 367) ⟨[.ref (h'.objs.size + 1), v], []⟩) (InitBack (h'.objs.size + 1) Rr) { s with heap := (h'.push emptyDict).push (instObj 597 h'.objs.size), toks := t }) :
  codeAny (model prog w) A (.call (.ref 597) ⟨[v], []⟩) Rr s := by
 have X : (KK w.params).In s.heap := rep_K ok R
 have hs := rep_stat ok R
 obtain ⟨oc, od, cd, sl, hC, e1, e2⟩ := sio_data X
 have call := sio_call X
 have typ := sio_typ X
 have mro := sio_mro X
 have made := sio_madeBy X
 obtain ⟨h0, g, d, t, os⟩ := s
 dsimp only at X hs hC call typ mro made R
 refine codeAny_of_tree ?_
 show wpAny _ _ (callAny (.ref 597) _) _ _ _
 refine nd_load hC ?_
 show wpAny _ _ (callAny.viaDunder (.ref 597) _) _ _ _
 unfold callAny.viaDunder
 refine wpAny_bind (call.at ?_)
 dsimp only
 rw [tc_bind]
 refine wpAny_bind (wpAny_pure (wpAny_bind (wpAny_pure ?_)))
 refine wpAny_pure (a := Fin.again (.call (.builtin "type.__call__") ⟨.ref 597 :: [v], []⟩)) (And.intro rfl ?_)
 refine codeAny_call_builtin_at (Code.quiet_builtin _ (by decide +kernel)) entry_typeCall (check_slot tc_kind tc_split typ (tc_args _ _ _) ?_)
 unfold Builtin.«type.__call__»
 repeat ((fail_if_success (with_reducible show wpAny _ _ (Bind.madeBy _) _ _ _)); first | with_reducible refine wpAny_call ?_ | lk)
 refine made.at ?_
 dsimp only
 refine wpAny_bind (sio_getnew X hs ?_)
 refine wpAny_bind (wpAny_holding (wpAny_call (new90 (s := ⟨h0, g, d, t + 1, os⟩) (A := A.under (.builtin "type.__call__" ⟨[.ref 597, v], []⟩)) ok hA hh (by show A.depth + 1 + 1 < _; omega) R fun z h' R' t' => ?_)))
 have X' : (KK w.params).In h' := rep_K (s := ⟨h', g, d, t, os⟩) ok R'
 have k : ∀ b o, h'.get? b = some o → ((h'.push emptyDict).push (instObj 597 h'.objs.size)).get? b = some o := fun b o e => Heap.get?_push_of_some _ (Heap.get?_push_of_some _ e)
 have hx : ((h'.push emptyDict).push (instObj 597 h'.objs.size)).get? (h'.objs.size + 1) = some (instObj 597 h'.objs.size) := by heap_get
 have t1 : Looks (model prog w) ((h'.push emptyDict).push (instObj 597 h'.objs.size)) (typeOf (.ref (h'.objs.size + 1))) (.ref 597) := (Looks.ld hx).andThen .now
 have s1 := (sio_self X').keeps k
 have i1 := (sio_init X').keeps k
 have b1 := (bind_fn (M := model prog w) X' (f := 367) (.ref (h'.objs.size + 1)) (by kernel_rfl)).keeps k
 dsimp only
 unfold isInstance callSpecial? specialOf
 repeat (first | with_reducible refine wpAny_call ?_ | lk)
 refine codeAny_mono (fin z h' t' R') fun r s' z => ?_
 rcases r with e | (v | _ | _ | _) <;> first | exact z | exact z.elim | skip
 obtain ⟨rfl, z⟩ := z
 exact wpAny_pure (wpAny_pure z)
end
section
variable {w : World} {F : Fm} {ads : Wd} {st : St}
theorem rep_inst0 {h : Heap} (c : Addr) (R : Rep w F ads st h) : Rep w F (ads ++ .one (h.objs.size + 1) h.objs.size) { st with led := st.led ++ [.inst c []] } ((h.push emptyDict).push (instObj c h.objs.size)) := by
 obtain ⟨m, news, lw, X⟩ := R
 have N' := (X.nw.push X.fr emptyDict).push (X.fr.push emptyDict) (instObj c h.objs.size)
 rw [Heap.size_push] at N'
 have efz : (ads ++ Wd.one (h.objs.size + 1) h.objs.size).fz = ads.fz := by rw [Wd.fz_append]; exact List.append_nil _
 have pm : (news ++ [(h.objs.size + 1, instObj c h.objs.size), (h.objs.size, emptyDict)] ++ (ads.fz ++ lw)).Perm ((h.objs.size + 1, instObj c h.objs.size) :: (h.objs.size, emptyDict) :: (news ++ (ads.fz ++ lw))) := by
  have e : news ++ [(h.objs.size + 1, instObj c h.objs.size), (h.objs.size, emptyDict)] ++ (ads.fz ++ lw) = news ++ ([(h.objs.size + 1, instObj c h.objs.size), (h.objs.size, emptyDict)] ++ (ads.fz ++ lw)) := List.append_assoc _ _ _
  rw [e]
  have := List.perm_append_comm_assoc news [(h.objs.size + 1, instObj c h.objs.size), (h.objs.size, emptyDict)] (ads.fz ++ lw)
  exact this
 refine ⟨m, news ++ [(h.objs.size + 1, instObj c h.objs.size), (h.objs.size, emptyDict)], lw, (X.fr.push _).push _, fun p hp => N' p ?_, X.loc.mono, ?_, ?_, X.ups⟩
 ·rw [efz] at hp
  exact pm.mem_iff.mp hp
 ·have z := (X.led.mono (more := .one (h.objs.size + 1) h.objs.size)).append (LedR.cons (One.inst (C := c) (a := h.objs.size + 1) (d := h.objs.size) (es := []) (n := 0) .nil) LedR.nil)
  rw [List.append_nil] at z
  exact z
 ·rw [efz]
  refine (pm.map (·.1)).nodup_iff.mpr ?_
  rw [List.map_cons, List.nodup_cons, List.map_cons, List.nodup_cons]
  have old : ∀ p ∈ news ++ (ads.fz ++ lw), p.1 < h.objs.size := fun p hp => Heap.lt_size (X.nw p hp).1
  refine ⟨fun ha => ?_, fun ha => ?_, X.nd⟩
  ·rcases List.mem_cons.mp ha with e | ha
   ·exact absurd e (by show h.objs.size + 1 ≠ h.objs.size; lia)
   ·obtain ⟨p, hp, e⟩ := List.mem_map.mp ha
    have := old p hp
    rw [e] at this
    exact absurd this (by show ¬ (h.objs.size + 1 < h.objs.size); lia)
  ·obtain ⟨p, hp, e⟩ := List.mem_map.mp ha
   have := old p hp
   rw [e] at this
   exact Nat.lt_irrefl _ this
end
noncomputable def f367 : FnE := ⟨367, 2, ["self", "initial_value"], [("newline", .str "\n" 756)], fBody s367, fScope s367, "StringIO.__init__", .ref 366, []⟩
theorem fok367 (P : Params) : FnOk (KK P) f367 := FnOk.of (by kernel_rfl) (by kernel_rfl) ⟨_, _, _, _, (by kernel_rfl : (KK P).lookup 367 = some (o367 P)), rfl, rfl, fun _ _ => rfl, rfl, rfl, fun s vs X h => by
 obtain ⟨a, b, rfl⟩ := len2 h
 exact binds_K (K := KK P) X rfl (by kernel_rfl : (KK P).lookup 360 = some (o360 P)) rfl (by rfl) (by kernel_rfl)⟩
noncomputable def f374 : FnE := ⟨374, 2, ["self", "s"], [], fBody s374, fScope s374, "StringIO.__translated", .ref 373, []⟩
theorem fok374 (P : Params) : FnOk (KK P) f374 := FnOk.of (by kernel_rfl) (by kernel_rfl) ⟨_, _, _, _, (by kernel_rfl : (KK P).lookup 374 = some (o374 P)), rfl, rfl, fun _ _ => rfl, rfl, rfl, fun s vs X h => by
 obtain ⟨a, b, rfl⟩ := len2 h
 exact BindsTo.of_eq (by kernel_rfl)⟩
noncomputable def cfS (P : Params) : Cf where
 K := KK P
 globs := g01
 fns := [f367, f374]
 cls := [c597]
theorem cokS (w : World) : CfOk w (cfS w.params) where
 fns := mem_cons' ⟨fok367 _, by kernel_rfl, noCell_sound (by kernel_rfl)⟩ <| mem_cons' ⟨fok374 _, by kernel_rfl, noCell_sound (by kernel_rfl)⟩ <| mem_nil
 cls := mem_cons' (cok597 _) <| mem_nil
 globs := globs_of (gok01 _)
 sps := mem_nil
 hxs := mem_nil
 hss := mem_nil
theorem sioInit_ev (P : Params) (b : Str) (a : SO) (k : Kt) : ev (cfS P) 30 (fScope s367).names (.sts (fBody s367)) { loc := [("self", .obj 1), ("initial_value", .str b), ("newline", .str "\n")], led := [a, .inst 597 []] } k =
   k .next { loc := [("self", .obj 1), ("initial_value", .str b), ("newline", .str "\n")], led := [a, sio b 0] } := by
  kernel_rfl
noncomputable def sioF (svs : List SV) (st : St) (k : Kt) : Prop := match svs with
 | [.str b] => match st.led with
  | [a] => k (.v (.obj 1)) { st with led := [a, sio b 0] }
  | _ => False
 | _ => False
noncomputable def sioSp : SpE := ⟨597, 1, 40, sioF⟩
theorem sioF_cases {svs : List SV} {st : St} {k : Kt} (h : sioF svs st k) : ∃ b a, svs = [.str b] ∧ st.led = [a] ∧ k (.v (.obj 1)) { st with led := [a, sio b 0] } := by
 unfold sioF at h
 split at h
 ·split at h
  ·rename_i hl
   exact ⟨_, _, rfl, hl, h⟩
  ·exact h.elim
 ·exact h.elim
theorem sio_ok {w : World} {C : Cf} (hK : C.K = KK w.params) (hC : C.known = true) : SpOk w C sioSp := by
 refine ⟨by rw [hK]; kernel_rfl, ?_⟩
 intro F A ads st s svs vs k Q Rr ok hA hh hd hu h R D hl T hR
 replace hA : true = true → A.frames = some F.stk := fun _ => hA hC
 obtain ⟨b, a, rfl, hled, hk⟩ := sioF_cases h
 have okN : FmOk (cfN w.params) F := fm_same (by rw [hK]; rfl) ok (by first | exact fun _ => rfl | exact fun _ => by assumption | exact fun h => h)
 have okS : FmOk (cfS w.params) F := fm_same (by rw [hK]; rfl) ok (by first | exact fun _ => rfl | exact fun _ => by assumption | exact fun h => h)
 have d40 : sioSp.d = 40 := rfl
 rw [d40] at hd hu
 cases D with
 | cons dv dr =>
  cases dr
  rename_i v
  refine sio_make okN (hA rfl) hh (by lia) R fun z h' t R' => ?_
  have R2 := rep_inst0 597 R'
  rw [Wd.append_assoc] at R2
  have e1 : ads.ads.length = 1 := by have := led_len R; rw [hled] at this; exact this.symm
  have dx : Den F.B (ads ++ ((⟨[], z⟩ : Wd) ++ .one (h'.objs.size + 1) h'.objs.size)) (.obj 1) (.ref (h'.objs.size + 1)) := by
   refine ⟨(h'.objs.size + 1, h'.objs.size), ?_, rfl⟩
   rw [Wd.ads_append, ← e1]
   simp [Wd.one, Wd.ads_append]
  let k' : Kt := fun r st' => r = .v .none ∧ st' = { loc := st.loc, led := [a, sio b 0] }
  refine call_code (s := { s with heap := (h'.push emptyDict).push (instObj 597 h'.objs.size), toks := t }) (e := f367) (n := 30) (svs := [.obj 1, .str b]) (k := k') (Q := fun c s' => ∃ u, c = .v u ∧ u = .none ∧ Q (.v (.ref (h'.objs.size + 1))) s') (sound (cokS w) 30) (cokS w) okS hA hh (by show A.depth + 1 + 30 < _; lia) (by show A.depth + 1 + 1 + 30 < _; lia) (by show A.units + 1 + 3 + 8 * 30 < _; lia) R2 (.cons dx (.cons dv.mono .nil)) (by kernel_rfl) ?_ ?_ ?_
  ·show ev (cfS w.params) 30 (fScope s367).names (.sts (fBody s367)) { loc := [("self", .obj 1), ("initial_value", .str b), ("newline", .str "\n")], led := st.led ++ [.inst 597 []] } _
   rw [hled]
   show ev (cfS w.params) 30 (fScope s367).names (.sts (fBody s367)) { loc := [("self", .obj 1), ("initial_value", .str b), ("newline", .str "\n")], led := [a, .inst 597 []] } _
   rw [sioInit_ev]
   exact ⟨rfl, rfl⟩
  ·rintro r st' more c s' ⟨rfl, rfl⟩ R3 nx d
   cases c with
   | v u =>
    refine ⟨u, rfl, d, ?_⟩
    rw [Wd.append_assoc] at R3
    exact T (.v (.obj 1)) _ _ (.v _) s' hk R3 ((Nx.mk' s _ t).trans nx) (by have := dx.mono (more := more); rw [Wd.append_assoc] at this; exact this)
   | _ => exact d.elim
  ·rintro u s' ⟨_, e, rfl, hq⟩
   cases e
   exact ⟨rfl, hR _ _ hq⟩
noncomputable def f656 : FnE := ⟨656, 5, ["self", "instream", "infile", "posix", "punctuation_chars"], [], fBody s656, fScope s656, "shlex.__init__", .ref 655, []⟩
theorem fok656 (P : Params) : FnOk (KK P) f656 := FnOk.of (by kernel_rfl) (by kernel_rfl) ⟨_, _, _, _, (by kernel_rfl : (KK P).lookup 656 = some (o656 P)), rfl, rfl, fun _ _ => rfl, rfl, rfl, fun s vs X h => by
 obtain ⟨a, b, c, d, e, rfl⟩ := len5 h
 exact binds_K (K := KK P) X rfl (by kernel_rfl : (KK P).lookup 649 = some (o649 P)) rfl (by rfl) (by kernel_rfl)⟩
theorem bind656 (P : Params) (a b : Value) (s : Shared) (X : (KK P).In s.heap) : BindsTo s (fnOf "__init__" "shlex.__init__" (fArgs s656) (fBody s656) (fScope s656) (.ref 649) .none .none (.str "cpy313.shlex" 1087) none (.ref 655) .none) ⟨[a, b], [("posix", .bool true)]⟩ [("self", a), ("instream", b), ("infile", .none), ("posix", .bool true), ("punctuation_chars", .bool false)] :=
 binds_K (K := KK P) X rfl (by kernel_rfl : (KK P).lookup 649 = some (o649 P)) rfl (by rfl) (by kernel_rfl)
noncomputable def g02 : List (Str × Value) := ("StringIO", .ref 597) :: g01
theorem gok02 (P : Params) : ∀ p ∈ g02, GlobAt (KK P) p := mem_cons' ⟨by kernel_rfl, .inl (by kernel_rfl)⟩ (gok01 P)
noncomputable def cfX (P : Params) : Cf where
 K := KK P
 globs := g02
 fns := [f656]
 cls := [c597, c732]
 sps := [sioSp]
theorem cokX (w : World) : CfOk w (cfX w.params) where
 fns := mem_cons' ⟨fok656 _, by kernel_rfl, noCell_sound (by kernel_rfl)⟩ <| mem_nil
 cls := mem_cons' (cok597 _) <| mem_cons' (cok732 _) <| mem_nil
 globs := globs_of (gok02 _)
 sps := mem_cons' (sio_ok rfl rfl) <| mem_nil
 hxs := mem_nil
 hss := mem_nil
noncomputable abbrev lxMade (b : Str) : List SO := .inst 732 [("instream", .obj 1), ("infile", .none), ("posix", .bool true), ("eof", .none), ("commenters", .str "#"), ("wordchars", .str wch), ("whitespace", .str " \t\r\n"), ("whitespace_split", .bool false), ("quotes", .str "'\""), ("escape", .str "\\"), ("escapedquotes", .str "\""), ("state", .str " "), ("pushback", .obj 2), ("lineno", .int 1), ("debug", .int 0), ("token", .str ""), ("filestack", .obj 3), ("source", .none), ("_punctuation_chars", .str "")] :: sio b 0 :: dqO :: dqO :: []
theorem lexInit_ev (P : Params) (b : Str) (k : Kt) : ev (cfX P) 80 (fScope s656).names (.sts (fBody s656)) { loc := [("self", .obj 0), ("instream", .str b), ("infile", .none), ("posix", .bool true), ("punctuation_chars", .bool false)], led := [.inst 732 []] } k =
   ("str" = "str" ∧ 63 + 62 ≤ sizeLine ∧ k .next { loc := [("self", .obj 0), ("instream", .obj 1), ("infile", .none), ("posix", .bool true), ("punctuation_chars", .str "")], led := lxMade b }) := by
  kernel_rfl
theorem lex_make {w : World} {F : Fm} {ads : Wd} {s : Shared} {st : St} {A : Around} {Rr : Result → Shared → Prop} {b : Str} {v : Value} {C : Cf} (hK : C.K = KK w.params) (hC : C.known = true) (ok : FmOk C F) (hA : A.frames = some F.stk) (hh : A.handled = none) (hd : A.depth + 90 < recursionLimit) (hu : A.units + 8 * 90 < cLine)
  (hled : st.led = []) (R : Rep w F ads st s.heap) (dv : Den F.B ads (.str b) v)
  (fin : ∀ more s' u, Rep w F (ads ++ more) { loc := st.loc, led := lxMade b } s'.heap → Nx F s s' → Den F.B (ads ++ more) (.obj 0) u → Rr (.ok (.ret u)) s') :
  codeAny (model prog w) A (.call (.ref 732) ⟨[v], [("posix", .bool true)]⟩) Rr s := by
 have okX : FmOk (cfX w.params) F := fm_same (by rw [hK]; rfl) ok (by first | exact fun _ => rfl | exact fun _ => by assumption | exact fun h => h)
 have X : (KK w.params).In s.heap := rep_K okX R
 obtain ⟨hh0, g, d, t, os⟩ := s
 dsimp only at X R
 refine make_core (makes_of X (by kernel_rfl)) (looks_findIn X (by kernel_rfl : findIn (KK w.params) (.ref 732) "__init__" = some (some (.ref 656)))) (fun self => bind_fn X self (by kernel_rfl)) (.inl rfl) ?_
 have R2 := rep_inst0 732 R
 have e1 : ads.ads.length = 0 := by have := led_len' R; rw [hled] at this; exact this.symm
 have dx : Den F.B (ads ++ .one (hh0.objs.size + 1) hh0.objs.size) (.obj 0) (.ref (hh0.objs.size + 1)) := by
  refine ⟨(hh0.objs.size + 1, hh0.objs.size), ?_, rfl⟩
  have := at_end ads (hh0.objs.size + 1) hh0.objs.size
  rw [e1] at this; exact this
 let k' : Kt := fun r st' => r = .v .none ∧ st' = { loc := st.loc, led := lxMade b }
 refine call_code_gen (s := ⟨(hh0.push emptyDict).push (instObj 732 hh0.objs.size), g, d, t, os⟩) (e := f656) (n := 80) (svs := [.obj 0, .str b, .none, .bool true, .bool false]) (vs := [.ref (hh0.objs.size + 1), v, .none, .bool true, .bool false]) (k := k') (Q := fun c s' => ∃ u, c = .v u ∧ u = .none ∧ Rr (.ok (.ret (.ref (hh0.objs.size + 1)))) s') (sound (cokX w) 80) (cokX w) okX (fun _ => hA) hh (by show A.depth + 1 + 80 < _; lia) (by show A.depth + 1 + 1 + 80 < _; lia) (by show A.units + 1 + 3 + 8 * 80 < _; lia) R2 (.cons dx (.cons dv.mono (.cons rfl (.cons rfl (.cons rfl .nil))))) (by kernel_rfl) (fun oc od osl fd g1 XK => ?_) ?_ ?_ ?_
 ·have e : (KK w.params).lookup 656 = some (o656 w.params) := by kernel_rfl
  have e' := e.symm.trans g1
  cases e'
  exact bind656 w.params _ v _ XK
 ·show ev (cfX w.params) 80 (fScope s656).names (.sts (fBody s656)) { loc := [("self", .obj 0), ("instream", .str b), ("infile", .none), ("posix", .bool true), ("punctuation_chars", .bool false)], led := st.led ++ [.inst 732 []] } _
  rw [hled]
  show ev (cfX w.params) 80 (fScope s656).names (.sts (fBody s656)) { loc := [("self", .obj 0), ("instream", .str b), ("infile", .none), ("posix", .bool true), ("punctuation_chars", .bool false)], led := [.inst 732 []] } _
  rw [lexInit_ev]
  exact ⟨rfl, by decide, rfl, rfl⟩
 ·rintro r st' more c s' ⟨rfl, rfl⟩ R3 nx dd
  cases c with
  | v u =>
   refine ⟨u, rfl, dd, ?_⟩
   have := dx.mono (more := more)
   rw [Wd.append_assoc] at R3 this
   exact fin _ s' _ R3 ((Nx.mk' _ _ t).trans nx) this
  | _ => exact dd.elim
 ·rintro u s' ⟨_, e, rfl, hq⟩
  cases e
  exact ⟨rfl, hq⟩
noncomputable def s744 : Stmt := stAt 23 B01
noncomputable def f744 : FnE := ⟨744, 1, ["s"], [("comments", .bool false), ("posix", .bool true)], fBody s744, fScope s744, "split", .ref 743, []⟩
theorem fok744 (P : Params) : FnOk (KK P) f744 := FnOk.of (by kernel_rfl) (by kernel_rfl) ⟨_, _, _, _, (by kernel_rfl : (KK P).lookup 744 = some (o744 P)), rfl, rfl, fun _ _ => rfl, rfl, rfl, fun s vs X h => by
 obtain ⟨a, rfl⟩ := len1 h
 exact binds_K (K := KK P) X rfl (by kernel_rfl : (KK P).lookup 737 = some (o737 P)) rfl (by rfl) (by kernel_rfl)⟩
noncomputable def aVal : Stmt → Expr
 | .Assign _ v _ => v
 | _ => default
noncomputable def rVal : Stmt → Expr
 | .Return (some v) _ => v
 | _ => default
noncomputable def cPos : Expr → Pos
 | .Call _ _ _ p => p
 | _ => default
noncomputable def shE : Expr := aVal (stAt 1 (fBody s744))
noncomputable def liE : Expr := rVal (stAt 4 (fBody s744))
noncomputable def shF (ns : List (Str × NameKind)) (st : St) (k : Kt) : Prop := match lk "s" st.loc with
 | some (.str b) => match lk "posix" st.loc with
  | some (.bool true) => match st.led with
   | [] => ns = (fScope s744).names ∧ k (.v (.obj 0)) { loc := st.loc, led := lxMade b }
   | _ => False
  | _ => False
 | _ => False
theorem shF_cases {ns : List (Str × NameKind)} {st : St} {k : Kt} (h : shF ns st k) : ∃ b, lk "s" st.loc = some (.str b) ∧ lk "posix" st.loc = some (.bool true) ∧ st.led = [] ∧ ns = (fScope s744).names ∧ k (.v (.obj 0)) { loc := st.loc, led := lxMade b } := by
 unfold shF at h
 split at h
 ·rename_i b hb
  split at h
  ·rename_i hp
   split at h
   ·rename_i hl
    exact ⟨b, hb, hp, hl, h⟩
   ·exact h.elim
  ·exact h.elim
 ·exact h.elim
noncomputable def shHk : HkE Expr := ⟨(cPos shE).line, (cPos shE).col, 100, shE, shF⟩
noncomputable def liF (b : Str) (toks : List Str) (ns : List (Str × NameKind)) (st : St) (k : Kt) : Prop :=
 ns = (fScope s744).names ∧ lk "lex" st.loc = some (.obj 0) ∧ st.led = lxLed (.str " ") (.str "") 1 b 0 [] ∧ LexAll b (.str " ") 1 0 toks ∧ toks.length ≤ sizeLine ∧ ∀ q i p, k (.v (.obj 4)) { loc := st.loc, led := lxLed q (.str "") i b p [.list (toks.map .str)] }
noncomputable def liHk (b : Str) (toks : List Str) : HkE Expr := ⟨(cPos liE).line, (cPos liE).col, 160, liE, liF b toks⟩
theorem sh_eq : ∃ p1 p2 p3 p4 p5, shE = .Call (.Name "shlex" p1) [.Name "s" p2] [⟨some "posix", .Name "posix" p3, p4⟩] p5 := ⟨kp shE [0], kp shE [1], (kw0 shE).value.pos, (kw0 shE).pos, kp shE [], by kernel_rfl⟩
theorem li_eq : ∃ p1 p2 p5, liE = .Call (.Name "list" p1) [.Name "lex" p2] [] p5 := ⟨kp liE [0], kp liE [1], kp liE [], by kernel_rfl⟩
noncomputable def g03 : List (Str × Value) := [("shlex", .ref 732), ("list", .type "list")]
theorem gok03 (P : Params) : ∀ p ∈ g03, GlobAt (KK P) p := mem_cons' ⟨by kernel_rfl, .inl (by kernel_rfl)⟩ <| mem_cons' ⟨by kernel_rfl, .inr ⟨by kernel_rfl, by kernel_rfl, by kernel_rfl⟩⟩ mem_nil
noncomputable def cf3 (P : Params) : Cf where
 K := KK P
 globs := g03
 fns := []
 cls := []
theorem cok3 (w : World) : CfOk w (cf3 w.params) := ⟨mem_nil, mem_nil, globs_of (gok03 _), mem_nil, mem_nil, mem_nil⟩
section
variable {w : World} {C : Cf} {F : Fm} {ads : Wd} {s : Shared} {st : St} {E : Value → Shared → Prop}
theorem nm_sv {x : Str} {p : Pos} {sv : SV} {Q : Value → Shared → Prop} (ok : FmOk C F) (hk : nmKind x F.sc.names = some .local) (hv : lk x st.loc = some sv) (hdb : Fast.sEq x "__debug__" = false)
  (R : Rep w F ads st s.heap) (q : ∀ u, Den F.B ads sv u → Q u s) : wpAny (model prog w) F.A (eval (.Name x p) F.env) Q E s := by
 rw [nmKind_eq] at hk
 obtain ⟨m, news, lw, u, X, a, b⟩ := rep_local R hv
 exact ldE ok X.fr hk a (q u b) (by rw [beq_sEq]; exact hdb)
theorem call_named {f : Expr} {args : List Expr} {kws : List Keyword} {pos : Pos} {env : Env} {A : Around} {M : Model} {Q : Value → Shared → Prop} (h : wpAny M A (eval f env) (fun f s₁ => wpAny M A (callWith pos f [] (backTo pos (starEach args env)) (backToKw pos (keywordEach kws env))) Q E s₁) E s)
  (he : eval (.Call f args kws pos) env = (do callWith pos (← eval f env) [] (backTo pos (starEach args env)) (backToKw pos (keywordEach kws env)))) :
  wpAny M A (eval (.Call f args kws pos) env) Q E s := by
 rw [he]; exact wpAny_bind h
theorem shHk_ok (hK : C.K = KK w.params) (hC : C.known = true) : HxOk w C shHk := by
 intro F E ads st s k Q ok hd hu h R T
 obtain ⟨b, hb, hp, hl, hns, hk⟩ := shF_cases h
 obtain ⟨p1, p2, p3, p4, p5, e⟩ := sh_eq
 show wpAny (model prog w) F.A (eval shE F.env) (fun v s' => Q (.v v) s') E s
 rw [e]
 have ok3 : FmOk (cf3 w.params) F := fm_same (by rw [hK]; rfl) ok (by first | exact fun _ => rfl | exact fun _ => by assumption | exact fun h => h)
 have d100 : shHk.d = 100 := rfl
 rw [d100] at hd hu
 have X : (KK w.params).In s.heap := rep_K ok3 R
 refine call_named (nm_glob (cok3 w) ok3 (by rw [hns]; kernel_rfl) (by kernel_rfl : lk "shlex" g03 = some (.ref 732)) (by kernel_rfl) R ?_) (by rfl)
 refine callWith_KW (K := KK w.params) X (by kernel_rfl) rfl ?_
 refine spliced_more (nm_sv ok3 (by rw [hns]; kernel_rfl) hb (by kernel_rfl) R fun v dv => spliced_none ?_) rfl
 refine wpAny_evalAll_cons (wpAny_bind (nm_sv ok3 (by rw [hns]; kernel_rfl) hp (by kernel_rfl) R fun v2 d2 => wpAny_bind (wpAny_standAt (wpAny_pure (wpAny_evalAll_nil ⟨X, ?_⟩)))))
 cases d2
 refine wpAny_call ?_
 refine lex_make hK hC ok (ok.stack hC) ok.hand (by show F.A.depth + 90 < _; lia) (by show F.A.units + 8 * 90 < _; lia) hl R dv fun more s' u R' nx du => ?_
 exact T (.v (.obj 0)) _ more (.v u) s' hk R' nx du
theorem liHk_ok (hK : C.K = KK w.params) (hC : C.known = true) (b : Str) (toks : List Str) : HxOk w C (liHk b toks) := by
 intro F E ads st s k Q ok hd hu h R T
 obtain ⟨hns, hx, hl, hL, hlen, hk⟩ := h
 obtain ⟨p1, p2, p5, e⟩ := li_eq
 show wpAny (model prog w) F.A (eval liE F.env) (fun v s' => Q (.v v) s') E s
 rw [e]
 have ok3 : FmOk (cf3 w.params) F := fm_same (by rw [hK]; rfl) ok (by first | exact fun _ => rfl | exact fun _ => by assumption | exact fun h => h)
 have okK : FmOk (cfK w.params) F := fm_same (by rw [hK]; rfl) ok (by first | exact fun _ => rfl | exact fun _ => by assumption | exact fun h => h)
 have d100 : (liHk b toks).d = 160 := rfl
 rw [d100] at hd hu
 refine Call_ (nm_glob (cok3 w) ok3 (by rw [hns]; kernel_rfl) (by kernel_rfl : lk "list" g03 = some (.type "list")) (by kernel_rfl) R ?_)
 refine callWith_plain (fun a e => nomatch e) rfl (spliced_more (nm_sv ok3 (by rw [hns]; kernel_rfl) hx (by kernel_rfl) R fun v dv => spliced_none ?_) rfl)
 exact list_lex okK (by lia) (by lia) hL hlen trivial R dv hl fun more s' u q' i' p' R' nx du => T (.v (.obj 4)) _ more (.v u) s' (hk q' i' p') R' nx du
end
noncomputable def cfY (P : Params) (b : Str) (toks : List Str) : Cf where
 K := KK P
 globs := g03
 fns := [f744]
 cls := [c597, c732]
 hxs := [shHk, liHk b toks]
theorem cokY (w : World) (b : Str) (toks : List Str) : CfOk w (cfY w.params b toks) where
 fns := mem_cons' ⟨fok744 _, by kernel_rfl, noCell_sound (by kernel_rfl)⟩ <| mem_nil
 cls := mem_cons' (cok597 _) <| mem_cons' (cok732 _) <| mem_nil
 globs := globs_of (gok03 _)
 sps := mem_nil
 hxs := mem_cons' (shHk_ok rfl rfl) <| mem_cons' (liHk_ok rfl rfl b toks) <| mem_nil
 hss := mem_nil
theorem split_ev (P : Params) (b : Str) (toks : List Str) (k : Kt) : ev (cfY P b toks) 200 (fScope s744).names (.sts (fBody s744)) { loc := [("s", .str b), ("comments", .bool false), ("posix", .bool true)], led := [] } k =
   (shE = shE ∧ (fScope s744).names = (fScope s744).names ∧ (liE = liE ∧ ((fScope s744).names = (fScope s744).names ∧ some (SV.obj 0) = some (.obj 0) ∧ lxLed (.str " ") (.str "") 1 b 0 [] = lxLed (.str " ") (.str "") 1 b 0 [] ∧ LexAll b (.str " ") 1 0 toks ∧ toks.length ≤ sizeLine ∧
     ∀ q i p, k (.ret (.obj 4)) { loc := [("s", .str b), ("comments", .bool false), ("posix", .bool true), ("lex", .obj 0)], led := lxLed q (.str "") i b p [.list (toks.map .str)] }))) := by
  kernel_rfl
noncomputable def splitF (svs : List SV) (st : St) (k : Kt) : Prop := match svs with
 | [.str b] => ∃ toks, LexAll b (.str " ") 1 0 toks ∧ toks.length ≤ sizeLine ∧ k (.v (.dat (.list (toks.map .str)))) st
 | _ => False
noncomputable def splitSp : SpE := ⟨744, 1, 220, splitF⟩
theorem frzL_strs {led : List SO} : ∀ (l : List Str), FrzL led (l.map .str) (l.map .str)
 | [] => .nil
 | a :: r => .cons (.str a) (frzL_strs r)
theorem split_ok {w : World} {C : Cf} (hK : C.K = KK w.params) (hC : C.known = true) : SpOk w C splitSp := by
 refine ⟨by rw [hK]; kernel_rfl, ?_⟩
 intro F A ads st s svs vs k Q Rr ok hA hh hd hu h R D hl T hR
 replace hA : true = true → A.frames = some F.stk := fun _ => hA hC
 have h' : ∃ b toks, svs = [.str b] ∧ LexAll b (.str " ") 1 0 toks ∧ toks.length ≤ sizeLine ∧ k (.v (.dat (.list (toks.map .str)))) st := by
  change splitF svs st k at h
  unfold splitF at h
  split at h
  ·obtain ⟨toks, a, b, c⟩ := h
   exact ⟨_, toks, rfl, a, b, c⟩
  ·exact h.elim
 obtain ⟨b, toks, rfl, hL, hlen, hk⟩ := h'
 have okY : FmOk (cfY w.params b toks) F := fm_same (by rw [hK]; rfl) ok (by first | exact fun _ => rfl | exact fun _ => by assumption | exact fun h => h)
 have d40 : splitSp.d = 220 := rfl
 rw [d40] at hd hu
 refine call_sub (e := f744) (n := 200) (led₁ := []) (led₂ := st.led) (sound (cokY w b toks) 200) (fok744 _) okY hA hh (by lia) (by lia) R D hl rfl trivial (fun x hx => by rw [List.mem_singleton.mp hx]; exact trivial) List.nodup_nil ?_ T hR
 show ev (cfY w.params b toks) 200 (fScope s744).names (.sts (fBody s744)) { loc := [("s", .str b), ("comments", .bool false), ("posix", .bool true)], led := [] } _
 rw [split_ev]
 refine ⟨rfl, rfl, rfl, rfl, rfl, rfl, hL, hlen, fun q i p => ⟨_, _, [], .inl rfl, .frz (d := .list (toks.map .str)) (.list (i := 4) (xs := toks.map .str) rfl (by simpa using hlen) (frzL_strs toks)), .nil, hk⟩⟩
open PySem.Sre
noncomputable def cdQ : Array Nat := #[14, 17, 4, 1, 1, 21, 9, 0, 604043296, 1, 0, 0, 0, 0, 0, 8, 4, 0, 13, 14, 21, 9, 0, 604043296, 1, 0, 0, 0, 0, 0, 8, 4, 0, 1]
noncomputable def chQ : Array Nat := #[0, 604043296, 1, 0, 0, 0, 0, 0]
noncomputable def bad (c : Nat) : Bool := !((decide (c < 256) && (chQ.getD (c / 32) 0).testBit (c % 32)) || isWord c)
theorem chQ_at {c : Nat} (b : Nat) (hb : b = 6 ∨ b = 21) (h : c < 256) : cdQ.getD (b + (1 + c / 32)) 0 = chQ.getD (c / 32) 0 := by
 have key : ∀ d : Fin 8, cdQ.getD (6 + (1 + d.1)) 0 = chQ.getD d.1 0 ∧ cdQ.getD (21 + (1 + d.1)) 0 = chQ.getD d.1 0 := by decide +kernel
 have k := key ⟨c / 32, by lia⟩
 rcases hb with rfl | rfl
 ·exact k.1
 ·exact k.2
theorem inSet_tail (c : Nat) (b : Nat) (hb : b = 6 ∨ b = 21) (seen : Sre.Seen) : ∃ seen', inSet cdQ c 33 b false seen = .ok (bad c, seen') := by
 have e1 : inSet cdQ c 33 b false seen = (if decide (c < 256) && (cdQ.getD (b + (1 + c / 32)) 0).testBit (c % 32) then .ok (false, seen.add 9) else inSet cdQ c 32 (b + 9) false (seen.add 9)) := by
  rcases hb with rfl | rfl <;> rfl
 have e2 : ∀ s2 : Sre.Seen, ∃ s3, inSet cdQ c 32 (b + 9) false s2 = .ok (!isWord c, s3) := by
  intro s2
  have e : inSet cdQ c 32 (b + 9) false s2 = (do if ← category 4 c then pure (false, (s2.add 8).add (55 + 4)) else inSet cdQ c 31 (b + 11) false ((s2.add 8).add (55 + 4))) := by
   rcases hb with rfl | rfl <;> rfl
  have ec : category 4 c = .ok (isWord c) := by
   show Except.ok (isWord c != (4 % 2 == 1)) = _
   cases isWord c <;> rfl
  rw [e, ec]
  cases isWord c with
  | true => exact ⟨_, rfl⟩
  | false =>
   refine ⟨((s2.add 8).add (55 + 4)).add 0, ?_⟩
   rcases hb with rfl | rfl <;> rfl
 rw [e1]
 unfold bad
 by_cases h : c < 256
 ·rw [chQ_at b hb h]
  cases q : (chQ.getD (c / 32) 0).testBit (c % 32) with
  | true => rw [decide_eq_true h]; exact ⟨_, rfl⟩
  | false =>
   rw [decide_eq_true h]
   obtain ⟨s3, e3⟩ := e2 (seen.add 9)
   exact ⟨s3, by simpa using e3⟩
 ·rw [decide_eq_false h]
  obtain ⟨s3, e3⟩ := e2 (seen.add 9)
  exact ⟨s3, by simpa using e3⟩
theorem inSet5 (c : Nat) (seen : Sre.Seen) : ∃ seen', inSet cdQ c cdQ.size 5 true seen = .ok (bad c, seen') := inSet_tail c 6 (.inl rfl) (seen.add 21)
theorem inSet20 (c : Nat) (seen : Sre.Seen) : ∃ seen', inSet cdQ c cdQ.size 20 true seen = .ok (bad c, seen') := inSet_tail c 21 (.inr rfl) (seen.add 21)
theorem admitted_ok (m : M) (hc : m.code = cdQ) : ∀ (fuel s : Nat) (seen : Sre.Seen), s ≤ m.lim → m.lim + 1 - s = fuel →
  ((∀ i, s ≤ i → i < m.lim → bad (m.text.getD i 0) = false) → ∃ seen', m.admitted fuel s seen = .ok (none, seen')) ∧
  ((∃ i, s ≤ i ∧ i < m.lim ∧ bad (m.text.getD i 0) = true) → ∃ i seen', i < m.lim ∧ bad (m.text.getD i 0) = true ∧ m.admitted fuel s seen = .ok (some i, seen')) := by
 intro fuel
 induction fuel with
 | zero => intro s seen h1 h2; omega
 | succ n ih =>
  intro s seen h1 h2
  by_cases hs : s ≥ m.lim
  ·have e : m.admitted (n + 1) s seen = .ok (none, seen) := by
    unfold M.admitted
    rw [if_pos hs]
   refine ⟨fun _ => ⟨seen, e⟩, fun ⟨i, a, b, _⟩ => by omega⟩
  ·obtain ⟨s2, e2⟩ := inSet5 (m.text.getD s 0) seen
   have e : m.admitted (n + 1) s seen = (match (Except.ok (bad (m.text.getD s 0), s2) : Except String (Bool × Sre.Seen)) with
    | .ok (true, seen) => .ok (some s, seen)
    | .ok (false, seen) => m.admitted n (s + 1) seen
    | .error why => .error why) := by
    rw [← e2, ← hc]
    conv => lhs; unfold M.admitted
    rw [if_neg hs]
    generalize inSet m.code (m.text.getD s 0) m.code.size 5 true seen = x
    rcases x with _ | ⟨_ | _, _⟩ <;> rfl
   rw [e]
   cases hb : bad (m.text.getD s 0) with
   | true =>
    refine ⟨fun h => ?_, fun _ => ⟨s, s2, by omega, hb, rfl⟩⟩
    have := h s (Nat.le_refl _) (by omega)
    rw [hb] at this; cases this
   | false =>
    obtain ⟨i1, i2⟩ := ih (s + 1) s2 (by omega) (by omega)
    refine ⟨fun h => i1 fun i a b => h i (by omega) b, fun ⟨i, a, b, c⟩ => i2 ⟨i, ?_, b, c⟩⟩
    rcases Nat.lt_or_ge s i with q | q
    ·exact q
    ·have : i = s := by omega
     subst this
     rw [hb] at c; cases c
theorem exec_in (m : M) (hc : m.code = cdQ) (hpc : m.pc = 18) (hp : m.pos < m.lim) (hb : bad (m.text.getD m.pos 0) = true) : ∃ seen', m.exec = { m with seen := seen', pc := 33, pos := m.pos + 1 } := by
 obtain ⟨code, text, lim, start, lastStart, wholeText, mustAdvance, pc, pos, handed, outermost, marks, lastmark, lastindex, loops, inner, frames, weight, answer, seen, outcome⟩ := m
 dsimp only at hc hpc hp hb
 subst hc hpc
 obtain ⟨s2, e2⟩ := inSet20 (text.getD pos 0) (seen.add 13)
 rw [hb] at e2
 refine ⟨s2, ?_⟩
 have ea : accepts cdQ 18 (text.getD pos 0) (seen.add 13) = .ok (true, s2) := e2
 have step : M.exec ⟨cdQ, text, lim, start, lastStart, wholeText, mustAdvance, 18, pos, handed, outermost, marks, lastmark, lastindex, loops, inner, frames, weight, answer, seen, outcome⟩ =
   (if pos ≥ lim then M.say ⟨cdQ, text, lim, start, lastStart, wholeText, mustAdvance, 18, pos, handed, outermost, marks, lastmark, lastindex, loops, inner, frames, weight, answer, seen.add 13, outcome⟩ false else
   match accepts cdQ 18 (text.getD pos 0) (seen.add 13) with
   | .error why => M.stick ⟨cdQ, text, lim, start, lastStart, wholeText, mustAdvance, 18, pos, handed, outermost, marks, lastmark, lastindex, loops, inner, frames, weight, answer, seen.add 13, outcome⟩ why
   | .ok (false, seen) => M.say ⟨cdQ, text, lim, start, lastStart, wholeText, mustAdvance, 18, pos, handed, outermost, marks, lastmark, lastindex, loops, inner, frames, weight, answer, seen, outcome⟩ false
   | .ok (true, seen) => ⟨cdQ, text, lim, start, lastStart, wholeText, mustAdvance, 33, pos + 1, handed, outermost, marks, lastmark, lastindex, loops, inner, frames, weight, answer, seen, outcome⟩) := by
  rfl
 rw [step, if_neg (by omega), ea]
noncomputable def oneFrame (s : Nat) : Sre.Frame := { wait := .nextStart, pc := 18, pos := s, outermost := true }
theorem run_found (m : M) (hc : m.code = cdQ) (hpc : m.pc = 18) (ho : m.outermost = true) (hw : m.wholeText = false) (ha : m.mustAdvance = false) (hf : m.frames = [oneFrame m.pos]) (hn : m.answer = none) (hoc : m.outcome = none) (hp : m.pos < m.lim) (hb : bad (m.text.getD m.pos 0) = true) :
  (m.runFor 4).outcome = some .matched := by
 obtain ⟨s2, e⟩ := exec_in m hc hpc hp hb
 obtain ⟨code, text, lim, start, lastStart, wholeText, mustAdvance, pc, pos, handed, outermost, marks, lastmark, lastindex, loops, inner, frames, weight, answer, seen, outcome⟩ := m
 dsimp only at hc hpc ho hw ha hf hn hoc hp hb e
 subst hc hpc ho hw ha hf hn hoc
 have e1 : M.step ⟨cdQ, text, lim, start, lastStart, false, false, 18, pos, handed, true, marks, lastmark, lastindex, loops, inner, [oneFrame pos], weight, none, seen, none⟩ = M.exec ⟨cdQ, text, lim, start, lastStart, false, false, 18, pos, handed, true, marks, lastmark, lastindex, loops, inner, [oneFrame pos], weight, none, seen, none⟩ := rfl
 show (M.runFor 3 (M.step _)).outcome = _
 rw [e1, e]
 rfl
theorem run_said (m : M) (b : Bool) (ha : m.answer = some b) (hf : m.frames = []) (hoc : m.outcome = none) : (m.runFor 4).outcome = some (if b then .matched else .failed) := by
 obtain ⟨code, text, lim, start, lastStart, wholeText, mustAdvance, pc, pos, handed, outermost, marks, lastmark, lastindex, loops, inner, frames, weight, answer, seen, outcome⟩ := m
 dsimp only at ha hf hoc
 subst ha hf hoc
 rfl
noncomputable def anyBad (t : Array Nat) : Prop := ∃ i, i < t.size ∧ bad (t.getD i 0) = true
theorem search_ok (t : Array Nat) (hn : t.size ≠ 0) : ((∀ i, i < t.size → bad (t.getD i 0) = false) → ((forSearch cdQ t 0 0 t.size false).runFor 4).outcome = some .failed) ∧
  (anyBad t → ((forSearch cdQ t 0 0 t.size false).runFor 4).outcome = some .matched) := by
 let m0 : M := { code := cdQ, text := t, lim := t.size, start := 0, pc := 18, pos := 0, handed := 0, marks := Array.replicate (2 * 0) none, mustAdvance := false, seen := ({} : Sre.Seen).add 14, lastStart := t.size }
 have e : forSearch cdQ t 0 0 t.size false = m0.attemptFrom 0 true := by
  have : ¬ ((decide (0 > t.size) || decide (t.size - 0 < 1)) = true) := by
   rw [decide_eq_false (by lia), decide_eq_false (by lia)]; decide
  show (if (decide (0 > t.size) || decide (t.size - 0 < 1)) = true then M.say { m0 with lastStart := 0 } false else m0.attemptFrom 0 true) = _
  rw [if_neg this]
 have e2 : m0.attemptFrom 0 true = (match M.admitted m0 (t.size + 1 - 0) 0 m0.seen with
  | .ok (some s, seen) => { m0 with mustAdvance := false, seen }.attemptAt s true
  | .ok (none, seen) => { m0 with seen }.say false
  | .error why => m0.stick why) := rfl
 obtain ⟨a1, a2⟩ := admitted_ok m0 rfl (t.size + 1 - 0) 0 m0.seen (Nat.zero_le _) rfl
 rw [e, e2]
 constructor
 ·intro h
  obtain ⟨s2, q⟩ := a1 fun i _ hi => h i hi
  rw [q]
  exact run_said _ false rfl rfl rfl
 ·rintro ⟨i, hi, hb⟩
  obtain ⟨s, s2, hs, hb', q⟩ := a2 ⟨i, Nat.zero_le _, hi, hb⟩
  rw [q]
  exact run_found _ rfl rfl rfl rfl rfl rfl rfl rfl hs hb'
open PySem.Builtin.Re
theorem entry_search : entryFor table "re.Pattern.search" = some Builtin.«re.Pattern.search» := entryFor_of_tree (by kernel_rfl)
section
variable {w : World} {h : Heap}
theorem rx_target (X : (KK w.params).In h) (b : Str) (t : Tok) : Looks (model prog w) h (reTarget "re.Pattern.search" "search" ⟨[.ref 49, .str b t], []⟩)
  { pattern := .ref 49, string := .str b t, code := cdQ, text := b.cps, kind := 0, groups := 0, pos := min (0 : Int).toNat b.cps.size, lim := min (2 ^ 63 - 1 : Int).toNat b.cps.size } := Looks.of_peek X (by kernel_rfl)
theorem rx_check (X : (KK w.params).In h) (b : Str) (t : Tok) : Looks (model prog w) h (checkBoundCall "re.Pattern.search" ⟨[.ref 49, .str b t], []⟩) () := Looks.of_peek X (by kernel_rfl)
end
theorem wpAny_noted {M : Model} {A : Around} {E : Value → Shared → Prop} {s : Shared} {p : Nat → Bool} {f : Nat → String} {Q : Unit → Shared → Prop} : ∀ (l : List Nat), Q () s →
  wpAny M A (forIn l () fun i _ => (if p i = true then rule (f i) >>= fun _ => pure (ForInStep.yield ()) else pure (ForInStep.yield ())) : Sem Unit) Q E s
 | [], q => wpAny_pure q
 | a :: r, q => by
  rw [List.forIn_cons]
  refine wpAny_bind ?_
  split
  ·exact wpAny_bind (wpAny_rule (wpAny_pure (wpAny_noted r q)))
  ·exact wpAny_pure (wpAny_noted r q)
theorem drive_once {M : Model} {A : Around} {E : Value → Shared → Prop} {s : Shared} {m : Sre.M} {Q : Sre.M → Shared → Prop} {n : Nat} (h : (m.runFor 4).outcome.isSome = true) (q : Q (m.runFor 4) s) : wpAny M A (reDrive (n + 1) m) Q E s := by
 show wpAny M A (if (m.runFor 4).outcome.isSome = true then pure (m.runFor 4) else rule "sre.turn" >>= fun _ => reDrive n (m.runFor 4)) Q E s
 rw [if_pos h]
 exact wpAny_pure q
theorem to_end {M : Model} {A : Around} {E : Value → Shared → Prop} {s : Shared} {m : Sre.M} {Q : Option Sre.M → Shared → Prop} (b : Bool) (h : (m.runFor 4).outcome = some (if b then .matched else .failed)) (q : Q (if b then some (m.runFor 4) else none) s) : wpAny M A (reRunToEnd m) Q E s := by
 unfold reRunToEnd
 have e : (2 ^ 64 : Nat) = 18446744073709551615 + 1 := by rfl
 rw [e]
 refine wpAny_bind (drive_once (by rw [h]; rfl) ?_)
 refine wpAny_bind ?_
 refine wpAny_noted (p := fun i => (Sre.M.runFor 4 m).seen.has i) (f := fun i => Sre.names.getD i "") _ ?_
 rw [h]
 cases b <;> exact wpAny_pure q
theorem rx_groups {M : Model} {A : Around} {E : Value → Shared → Prop} {s : Shared} {m : Sre.M} {p v : Value} {lo hi : Nat} {Q : Value → Shared → Prop} (q : ∀ o1 o2, Q (.ref (s.heap.objs.size + 1)) { s with heap := (s.heap.push o1).push o2 }) :
  wpAny M A (reNewMatch p v 0 lo hi m) Q E s := by
 show wpAny M A (newTuple (rawInt m.start :: rawInt m.handed :: []) >>= fun tp => newFields "re.Match" [v, p, rawInt lo, rawInt hi, rawInt m.lastindex, tp]) Q E s
 refine wpAny_bind (wpAny_newTuple ?_ (by show 2 ≤ sizeLine; decide))
 unfold newFields
 refine wpAny_newObj_type ?_
 have := q { cls := .type "tuple", data := .seq #[rawInt m.start, rawInt m.handed] } { cls := .type "re.Match", dict := none, data := .fields #[v, p, rawInt lo, rawInt hi, rawInt m.lastindex, .ref s.heap.objs.size] }
 simpa [Heap.size_push] using this
theorem rx_call {w : World} {A : Around} {Rr : Result → Shared → Prop} {s : Shared} {b : Str} {t : Tok} (X : (KK w.params).In s.heap) (hl : b.length ≤ sizeLine) (hn : b.length ≠ 0)
  (h0 : (∀ i, i < b.cps.size → bad (b.cps.getD i 0) = false) → Rr (.ok (.ret .none)) s)
  (h1 : anyBad b.cps → ∀ o1 o2, Rr (.ok (.ret (.ref (s.heap.objs.size + 1)))) { s with heap := (s.heap.push o1).push o2 }) :
  codeAny (model prog w) A (.call (.ref 752) ⟨[.str b t], []⟩) Rr s := by
 have hC := X _ _ (by kernel_rfl : (KK w.params).lookup 752 = some (o752 w.params))
 have ck := rx_check X b t
 have tg := rx_target X b t
 obtain ⟨hh, g, d, tt, os⟩ := s
 dsimp only at hC ck tg
 refine codeAny_of_tree ?_
 show wpAny _ _ (callAny (.ref 752) _) _ _ _
 refine nd_load hC ?_
 show wpAny _ _ (checkBoundCall "re.Pattern.search" ⟨[.ref 49, .str b t], []⟩ >>= fun _ => again (.builtin "re.Pattern.search" ⟨[.ref 49, .str b t], []⟩)) _ _ _
 refine wpAny_bind (ck.at ?_)
 refine wpAny_pure (a := Fin.again (.builtin "re.Pattern.search" ⟨[.ref 49, .str b t], []⟩)) (And.intro (Code.quiet_builtin _ (by decide +kernel)) ?_)
 refine codeAny_builtin entry_search ?_
 unfold Builtin.«re.Pattern.search»
 have e1 : min (0 : Int).toNat b.cps.size = 0 := Nat.zero_min _
 have e2 : min (2 ^ 63 - 1 : Int).toNat b.cps.size = b.cps.size := by
  have : b.cps.size ≤ sizeLine := hl
  rw [sizeLine_eq] at this
  have e : ((2 : Int) ^ 63 - 1).toNat = 9223372036854775807 := by rfl
  rw [e]; lia
 rw [e1, e2] at tg
 refine wpAny_bind (tg.at ?_)
 unfold reAnswer
 obtain ⟨s1, s2⟩ := search_ok b.cps hn
 by_cases hb : anyBad b.cps
 ·refine wpAny_bind (to_end true (s2 hb) ?_)
  exact wpAny_bind (rx_groups fun o1 o2 => wpAny_pure (h1 hb o1 o2))
 ·have hs : ∀ i, i < b.cps.size → bad (b.cps.getD i 0) = false := fun i hi => by
   cases q : bad (b.cps.getD i 0) with
   | false => rfl
   | true => exact absurd ⟨i, hi, q⟩ hb
  refine wpAny_bind (to_end false (s1 hs) ?_)
  exact wpAny_pure (h0 hs)
noncomputable def repL (c : Nat) (z : List Nat) (l : List Nat) : List Nat := l.flatMap fun k => if k = c then z else [k]
theorem repL_append (c : Nat) (z a b : List Nat) : repL c z (a ++ b) = repL c z a ++ repL c z b := List.flatMap_append
theorem repL_free (c : Nat) (z : List Nat) : ∀ l : List Nat, c ∉ l → repL c z l = l
 | [], _ => rfl
 | k :: r, h => by
  have h1 : k ≠ c := fun e => h (e ▸ .head _)
  show (if k = c then z else [k]) ++ repL c z r = _
  rw [if_neg h1, repL_free c z r fun q => h (.tail _ q)]
  rfl
theorem repL_one (c : Nat) (z : List Nat) : repL c z [c] = z := by simp [repL]
theorem repL_join (c : Nat) (z : Str) : ∀ parts : List Str, (∀ p ∈ parts, c ∉ p.cps.toList) → repL c z.cps.toList (Str.join ⟨#[c]⟩ parts).cps.toList = (Str.join z parts).cps.toList
 | [], _ => rfl
 | [p], h => repL_free c _ _ (h p (List.mem_singleton.mpr rfl))
 | p :: q :: r, h => by
  have ih := repL_join c z (q :: r) fun a ha => h a (List.mem_cons_of_mem _ ha)
  show repL c z.cps.toList (p ++ ⟨#[c]⟩ ++ Str.join ⟨#[c]⟩ (q :: r)).cps.toList = (p ++ z ++ Str.join z (q :: r)).cps.toList
  simp only [Str.cps_append, Array.toList_append]
  rw [repL_append, repL_append, ih, repL_free c _ _ (h p (List.mem_cons_self ..))]
  show p.cps.toList ++ repL c z.cps.toList [c] ++ _ = _
  rw [repL_one]
theorem replace_repL (x z : Str) (c : Nat) : (Txt.replace x ⟨#[c]⟩ z).cps.toList = repL c z.cps.toList x.cps.toList := by
 rw [StrLaws.replace_one, ← repL_join c z _ (StrLaws.split_free x c), StrLaws.join_split]
theorem repL_len (c : Nat) (z : List Nat) (n : Nat) (hz : z.length ≤ n) (h1 : 1 ≤ n) : ∀ l : List Nat, (repL c z l).length ≤ n * l.length
 | [] => Nat.zero_le _
 | k :: r => by
  have ih := repL_len c z n hz h1 r
  show ((if k = c then z else [k]) ++ repL c z r).length ≤ n * (r.length + 1)
  rw [List.length_append, Nat.mul_add]
  have : (if k = c then z else [k]).length ≤ n := by
   split
   ·exact hz
   ·exact h1
  lia
theorem str_tx {s : Str} {l : List Nat} (h : s.cps.toList = l) : s = tx l := by subst h; cases s; simp [tx]
noncomputable def qm : List Nat := [39, 34, 39, 34, 39]
noncomputable def wordS (l : List Nat) : List Nat := if l ≠ [] ∧ l.all (fun c => !bad c) = true then l else 39 :: (repL 39 qm l ++ [39])
noncomputable def s759 : Stmt := stAt 27 B01
noncomputable def f759 : FnE := ⟨759, 1, ["s"], [], fBody s759, fScope s759, "quote", .ref 758, []⟩
theorem fok759 (P : Params) : FnOk (KK P) f759 := FnOk.of (by kernel_rfl) (by kernel_rfl) ⟨_, _, _, _, (by kernel_rfl : (KK P).lookup 759 = some (o759 P)), rfl, rfl, fun _ _ => rfl, rfl, rfl, fun s vs X h => by
 obtain ⟨a, rfl⟩ := len1 h
 exact BindsTo.of_eq (by kernel_rfl)⟩
noncomputable def cmpL : Expr → Expr
 | .Compare l _ _ _ => l
 | _ => default
noncomputable def rPos : Stmt → Pos
 | .Return _ p => p
 | _ => default
noncomputable def fuE : Expr := cmpL (ifTest (stAt 1 (fBody s759)))
noncomputable def qrS : Stmt := stAt 2 (fBody s759)
noncomputable def fuF (ns : List (Str × NameKind)) (st : St) (k : Kt) : Prop := match lk "s" st.loc with
 | some (.str b) => ns = (fScope s759).names ∧ b.length ≠ 0 ∧ ((∀ i, i < b.cps.size → bad (b.cps.getD i 0) = false) → k (.v .none) st) ∧ (anyBad b.cps → k (.v (.obj st.led.length)) { st with led := st.led ++ [.gone] })
 | _ => False
noncomputable def fuHk : HkE Expr := ⟨(cPos fuE).line, (cPos fuE).col, 20, fuE, fuF⟩
noncomputable def qrF (ns : List (Str × NameKind)) (st : St) (k : Kt) : Prop := match lk "s" st.loc with
 | some (.str b) => ns = (fScope s759).names ∧ b.length ≤ 1000000 ∧ k (.ret (.str (tx (39 :: (repL 39 qm b.cps.toList ++ [39]))))) st
 | _ => False
noncomputable def qrHk : HkE Stmt := ⟨(rPos qrS).line, (rPos qrS).col, 20, qrS, qrF⟩
theorem fu_eq : ∃ p1 p2 p5, fuE = .Call (.Name "_find_unsafe" p1) [.Name "s" p2] [] p5 := ⟨kp fuE [0], kp fuE [1], kp fuE [], by kernel_rfl⟩
theorem qr_eq : ∃ p1 p2 p3 p4 p5 p6 p7 p8 p9 p10 n1 n2 n3 n4, qrS = .Return (some (.BinOp (.BinOp (.Constant (.str "'") n1 p1) .Add (.Call (.Attribute (.Name "s" p2) "replace" p3) [.Constant (.str "'") n2 p4, .Constant (.str "'\"'\"'") n3 p5] [] p6) p7) .Add (.Constant (.str "'") n4 p8) p9)) p10 ∧ (p3.endLine == p6.line) = true :=
 let e := sEx qrS
 ⟨kp e [0, 0], kp e [0, 1, 0, 0], kp e [0, 1, 0], kp e [0, 1, 1], kp e [0, 1, 2], kp e [0, 1], kp e [0], kp e [1], kp e [], qrS.pos, kK e [0, 0], kK e [0, 1, 1], kK e [0, 1, 2], kK e [1], by kernel_rfl, by kernel_rfl⟩
noncomputable def g04 : List (Str × Value) := [("_find_unsafe", .ref 752)]
theorem gok04 (P : Params) : ∀ p ∈ g04, GlobAt (KK P) p := mem_cons' ⟨by kernel_rfl, .inl (by kernel_rfl)⟩ mem_nil
noncomputable def cf4 (P : Params) (kn : Bool) : Cf where
 K := KK P
 globs := g04
 fns := []
 cls := []
 known := kn
theorem cok4 (w : World) (kn : Bool) : CfOk w (cf4 w.params kn) := ⟨mem_nil, mem_nil, globs_of (gok04 _), mem_nil, mem_nil, mem_nil⟩
theorem keeps_rx {M : Model} (P : Params) (h : Heap) (X : (KK P).In h) : ∃ k, (k = Keeper.frame ∨ k = Keeper.machine ∨ k = Keeper.boundFrame) ∧ Looks M h (keeperOf (.ref 752)) k := by
 refine ⟨.machine, .inr (.inl rfl), (Looks.ld (part := none) (X _ _ (by kernel_rfl : (KK P).lookup 752 = some (o752 P)))).andThen ?_⟩
 exact .now
section
variable {w : World} {C : Cf} {F : Fm} {ads : Wd} {s : Shared} {st : St} {E : Value → Shared → Prop}
theorem rep_gone {h : Heap} (a : Addr) (R : Rep w F ads st h) : Rep w F (ads ++ .one a 0) { st with led := st.led ++ [.gone] } h := by
 obtain ⟨m, news, lw, X⟩ := R
 have efz : (ads ++ Wd.one a 0).fz = ads.fz := by rw [Wd.fz_append]; exact List.append_nil _
 refine ⟨m, news, lw, X.fr, fun p hp => X.nw p (by rw [efz] at hp; exact hp), X.loc.mono, ?_, by rw [efz]; exact X.nd, X.ups⟩
 have z := (X.led.mono (more := .one a 0)).append (LedR.cons (One.gone (a := a) (d := 0)) LedR.nil)
 rw [List.append_nil, List.append_nil] at z
 exact z
theorem fuHk_ok (hK : C.K = KK w.params) : HxOk w C fuHk := by
 intro F E ads st s k Q ok hd hu h R T
 obtain ⟨b, hb, hns, hn, h0, h1⟩ : ∃ b, lk "s" st.loc = some (.str b) ∧ F.sc.names = (fScope s759).names ∧ b.length ≠ 0 ∧ ((∀ i, i < b.cps.size → bad (b.cps.getD i 0) = false) → k (.v .none) st) ∧ (anyBad b.cps → k (.v (.obj st.led.length)) { st with led := st.led ++ [.gone] }) := by
  change fuF _ st k at h
  unfold fuF at h
  split at h
  ·rename_i b hb
   exact ⟨b, hb, h⟩
  ·exact h.elim
 obtain ⟨p1, p2, p5, e⟩ := fu_eq
 show wpAny (model prog w) F.A (eval fuE F.env) (fun v s' => Q (.v v) s') E s
 rw [e]
 have ok4 : FmOk (cf4 w.params C.known) F := fm_same (by rw [hK]; rfl) ok fun h => h
 have X : (KK w.params).In s.heap := rep_K ok4 R
 refine Call_ (nm_glob (cok4 w C.known) ok4 (by rw [hns]; kernel_rfl) (by kernel_rfl : lk "_find_unsafe" g04 = some (.ref 752)) (by kernel_rfl) R ?_)
 refine callWith_of (P := fun h => (KK w.params).In h) rfl (fun h X => keeps_rx w.params h X) (evalArgs_ns (es := [.Name "s" p2]) rfl ?_)
 refine spliced_more (nm_sv ok4 (by rw [hns]; kernel_rfl) hb (by kernel_rfl) R fun v dv => spliced_none ?_) rfl
 obtain ⟨⟨t, rfl⟩, hl⟩ := dv
 refine ⟨X, wpAny_call (rx_call X hl hn (fun hs => ?_) fun hs o1 o2 => ?_)⟩
 ·exact T (.v .none) _ ⟨[], []⟩ (.v .none) s (h0 hs) (by rw [show ads ++ (⟨[], []⟩ : Wd) = ads from Wd.append_nil ads]; exact R) (Nx.refl s) rfl
 ·have R2 := rep_gone (s.heap.objs.size + 1) (rep_junk o2 (rep_junk o1 R))
  refine T (.v (.obj st.led.length)) _ _ (.v _) _ (h1 hs) R2 (Nx.mk' s _ s.toks) ⟨(s.heap.objs.size + 1, 0), ?_, rfl⟩
  have := at_end ads (s.heap.objs.size + 1) 0
  rw [← led_len' R] at this; exact this
theorem qrHk_ok (hK : C.K = KK w.params) : HsOk w C qrHk := by
 intro F E ads st s k Q ok hd hu h R T
 obtain ⟨b, hb, hns, hn, hk⟩ : ∃ b, lk "s" st.loc = some (.str b) ∧ F.sc.names = (fScope s759).names ∧ b.length ≤ 1000000 ∧ k (.ret (.str (tx (39 :: (repL 39 qm b.cps.toList ++ [39]))))) st := by
  change qrF _ st k at h
  unfold qrF at h
  split at h
  ·rename_i b hb
   exact ⟨b, hb, h⟩
  ·exact h.elim
 obtain ⟨p1, p2, p3, p4, p5, p6, p7, p8, p9, p10, n1, n2, n3, n4, e, hp⟩ := qr_eq
 show wpAny (model prog w) F.A (exec qrS F.env) (fun f s' => Q (.fl f) s') E s
 rw [e]
 have R1 : ∀ t, Rep w F ads st ({ s with toks := t } : Shared).heap := fun t => R
 refine wpAny_Return_some (wpAny_BinOp (wpAny_BinOp (wpAny_Constant_str ?_)))
 refine MethodCall_ (nm_sv (s := { s with toks := s.toks + 1 }) ok (by rw [hns]; kernel_rfl) hb (by kernel_rfl) R fun v dv => ?_) (mcall_eq (by unfold mcOk; rw [hp]; rfl))
 obtain ⟨⟨t, rfl⟩, hl⟩ := dv
 refine GM.replace ?_
 refine callWith_plain (fun a e => nomatch e) rfl (spliced_more (wpAny_Constant_str (spliced_more (wpAny_Constant_str (spliced_none ?_)) rfl)) rfl)
 have e1 : (("'" : Str)) = ⟨#[39]⟩ := by rfl
 have e2 : (("'\"'\"'" : Str)).cps.toList = qm := by rfl
 refine SC.replaceW (by simp) (by simp) (by simp) (by decide +kernel) (by show b.length ≤ 1048576; lia) (by decide +kernel) fun t' kk => ?_
 have hr : Txt.replace b "'" "'\"'\"'" = tx (repL 39 qm b.cps.toList) := by
  have q := replace_repL b "'\"'\"'" 39
  rw [e2] at q
  rw [e1]
  exact str_tx q
 rw [hr]
 have hL : (repL 39 qm b.cps.toList).length ≤ 5000000 := by
  have := repL_len 39 qm 5 (by decide) (by decide) b.cps.toList
  have hb' : b.cps.toList.length = b.length := by simp [Str.length]
  lia
 have hl2 : (tx (repL 39 qm b.cps.toList)).length ≤ sizeLine := by rw [tx_len, sizeLine_eq]; lia
 have d1 : ∀ t, Den F.B ads (.str "'") (.str "'" t) := fun t => ⟨⟨t, rfl⟩, by decide +kernel⟩
 refine add_sound (B := F.B) (ads := ads) (x := .str "'") (y := .str (tx (repL 39 qm b.cps.toList))) (k := fun z => z = .str (tx (39 :: repL 39 qm b.cps.toList))) (d1 _) ⟨⟨t', rfl⟩, hl2⟩ ?_ fun r v t2 hr dv => ?_
 ·show ("'" : Str).length + (tx (repL 39 qm b.cps.toList)).length ≤ sizeLine ∧ SV.str ("'" ++ tx (repL 39 qm b.cps.toList)) = _
  refine ⟨?_, ?_⟩
  ·rw [tx_len, sizeLine_eq]
   have : ("'" : Str).length = 1 := by rfl
   lia
  ·have : ("'" : Str) = tx [39] := by rfl
   rw [this, tx_append]; rfl
 subst hr
 refine wpAny_Constant_str (add_sound (B := F.B) (ads := ads) (x := .str (tx (39 :: repL 39 qm b.cps.toList))) (y := .str "'") (k := fun z => z = .str (tx (39 :: (repL 39 qm b.cps.toList ++ [39])))) dv (d1 _) ?_ fun r v t3 hr dv => ?_)
 ·show (tx (39 :: repL 39 qm b.cps.toList)).length + ("'" : Str).length ≤ sizeLine ∧ SV.str (tx (39 :: repL 39 qm b.cps.toList) ++ "'") = _
  refine ⟨?_, ?_⟩
  ·rw [tx_len, sizeLine_eq]
   have : ("'" : Str).length = 1 := by rfl
   rw [List.length_cons]
   lia
  ·have : ("'" : Str) = tx [39] := by rfl
   rw [this, tx_append]; rfl
 subst hr
 have ea : ads ++ (⟨[], []⟩ : Wd) = ads := Wd.append_nil ads
 have dv' : DenR F.B (ads ++ (⟨[], []⟩ : Wd)) (.ret (.str (tx (39 :: (repL 39 qm b.cps.toList ++ [39]))))) (.fl (.ret v)) := by rw [ea]; exact dv
 exact T (.ret _) _ ⟨[], []⟩ (.fl (.ret v)) _ hk (by rw [ea]; exact R) (nx_toks s _) dv'
end
noncomputable def cfQ (P : Params) (kn : Bool) : Cf where
 K := KK P
 globs := []
 fns := []
 cls := []
 known := kn
 hxs := [fuHk]
 hss := [qrHk]
theorem cokQ (w : World) (kn : Bool) : CfOk w (cfQ w.params kn) where
 fns := mem_nil
 cls := mem_nil
 globs := fun x v h => nomatch h
 sps := mem_nil
 hxs := mem_cons' (fuHk_ok rfl) <| mem_nil
 hss := mem_cons' (qrHk_ok rfl) <| mem_nil
theorem quote_ev (P : Params) (kn : Bool) (b : Str) (k : Kt) : ev (cfQ P kn) 40 (fScope s759).names (.sts (fBody s759)) { loc := [("s", .str b)], led := [] } k =
   ifT (!((b.length : Int) != 0)) (k (.ret (.str "''")) { loc := [("s", .str b)], led := [] })
    (fuE = fuE ∧ (fScope s759).names = (fScope s759).names ∧ b.length ≠ 0 ∧ ((∀ i, i < b.cps.size → bad (b.cps.getD i 0) = false) → k (.ret (.str b)) { loc := [("s", .str b)], led := [] }) ∧
      (anyBad b.cps → (qrS = qrS ∧ (fScope s759).names = (fScope s759).names ∧ b.length ≤ 1000000 ∧ k (.ret (.str (tx (39 :: (repL 39 qm b.cps.toList ++ [39]))))) { loc := [("s", .str b)], led := [.gone] }))) := by
  kernel_rfl
theorem word_good {b : Str} (hn : b.length ≠ 0) (h : ∀ i, i < b.cps.size → bad (b.cps.getD i 0) = false) : tx (wordS b.cps.toList) = b := by
 have e : wordS b.cps.toList = b.cps.toList := by
  unfold wordS
  rw [if_pos]
  refine ⟨fun e => hn (by (have h0 : b.cps.size = b.cps.toList.length := (by simp)); rw [e] at h0; exact h0), List.all_eq_true.mpr fun c hc => ?_⟩
  obtain ⟨i, hi, rfl⟩ := List.mem_iff_getElem.mp hc
  have hi' : i < b.cps.size := by simpa using hi
  have := h i hi'
  simp [Array.getD, hi'] at this
  simpa using this
 rw [e]
 exact (str_tx rfl).symm
theorem word_bad {b : Str} (h : anyBad b.cps) : wordS b.cps.toList = 39 :: (repL 39 qm b.cps.toList ++ [39]) := by
 unfold wordS
 rw [if_neg]
 rintro ⟨_, h2⟩
 obtain ⟨i, hi, hb⟩ := h
 have := List.all_eq_true.mp h2 (b.cps.toList[i]'(by simpa using hi)) (List.getElem_mem _)
 simp [Array.getD, hi] at hb
 simp [hb] at this
noncomputable def s771 : Stmt := stAt 30 B01
noncomputable def f771 : FnE := ⟨771, 1, ["s"], [], fBody s771, fScope s771, "parse_http_list", .ref 770, []⟩
theorem fok771 (P : Params) : FnOk (KK P) f771 := FnOk.of (by kernel_rfl) (by kernel_rfl) ⟨_, _, _, _, (by kernel_rfl : (KK P).lookup 771 = some (o771 P)), rfl, rfl, fun _ _ => rfl, rfl, rfl, fun s vs X h => by
 obtain ⟨a, rfl⟩ := len1 h
 exact BindsTo.of_eq (by kernel_rfl)⟩
noncomputable def forTgt : Stmt → Expr
 | .For a _ _ _ _ => a
 | _ => default
noncomputable def forBody : Stmt → List Stmt
 | .For _ _ b _ _ => b
 | _ => []
noncomputable def ns771 : List (Str × NameKind) := (fScope s771).names
noncomputable def fr771 : Stmt := stAt 3 (fBody s771)
noncomputable abbrev cfH (P : Params) : Cf where
 K := KK P
 globs := []
 fns := []
 cls := []
theorem cokH (w : World) : CfOk w (cfH w.params) := ⟨mem_nil, mem_nil, (fun x v h => nomatch h), mem_nil, mem_nil, mem_nil⟩
noncomputable def thenT (f : St → Kt → Prop) (k : Kt) : Kt := fun r st₁ => match r with
 | .next => f st₁ k
 | .brk => k .brk st₁
 | .cont => k .cont st₁
 | .ret x => k (.ret x) st₁
 | _ => False
noncomputable abbrev hst (b part : Str) (e q : Bool) (l : List SO) : St := { loc := [("s", .str b), ("res", .obj 0), ("part", .str part), ("escape", .bool e), ("quote", .bool q)], led := l }
noncomputable abbrev hstc (b part : Str) (e q : Bool) (c : Str) (l : List SO) : St := { loc := [("s", .str b), ("res", .obj 0), ("part", .str part), ("escape", .bool e), ("quote", .bool q), ("cur", .str c)], led := l }
theorem http_head (P : Params) (b : Str) (k : Kt) : ev (cfH P) 40 ns771 (.sts (fBody s771)) { loc := [("s", .str b)], led := [] } k =
   forE (bindT ns771 (forTgt fr771)) (fun st k => ev (cfH P) 35 ns771 (.sts (forBody fr771)) st k) (.str b) (b.cps.toList.map fun c => .str (sgS c)) (.it true (.str b)) 1 0 (b.cps.toList.map fun c => .str (sgS c))
     (hst b "" false false [.list [], .it true (.str b) 0]) (thenT (fun st k => ev (cfH P) 36 ns771 (.sts ((fBody s771).drop 4)) st k) k) := by
  kernel_rfl
theorem http_turn (P : Params) (b part : Str) (e q : Bool) (c : Str) (j : Nat) (xs : List SV) (k : Kt) :
   bindT ns771 (forTgt fr771) (.str c) (hst b part e q [.list xs, .it true (.str b) j]) (fun st₁ => ev (cfH P) 35 ns771 (.sts (forBody fr771)) st₁ k) =
    ifT e (part.length + c.length ≤ sizeLine ∧ k .cont (hstc b (part ++ c) false q c [.list xs, .it true (.str b) j]))
    (ifT q (ifT (Fast.sEq c "\\") (k .cont (hstc b part true q c [.list xs, .it true (.str b) j]))
        (ifT (Fast.sEq c "\"") (part.length + c.length ≤ sizeLine ∧ k .cont (hstc b (part ++ c) e false c [.list xs, .it true (.str b) j]))
          (part.length + c.length ≤ sizeLine ∧ k .cont (hstc b (part ++ c) e q c [.list xs, .it true (.str b) j]))))
      (ifT (Fast.sEq c ",") (xs.length ≤ sizeLine ∧ k .cont (hstc b "" e q c [.list (xs ++ [.str part]), .it true (.str b) j]))
        (ifT (Fast.sEq c "\"") (part.length + c.length ≤ sizeLine ∧ k .next (hstc b (part ++ c) e true c [.list xs, .it true (.str b) j]))
          (part.length + c.length ≤ sizeLine ∧ k .next (hstc b (part ++ c) e q c [.list xs, .it true (.str b) j]))))) := by
  kernel_rfl
theorem svT_ok {n : Nat} {led : List SO} {v : SV} (h : okV n v) : SvT n led v v := by
 cases v <;> first | exact .keep h | exact .same trivial
theorem svsT_ok {n : Nat} {led : List SO} : ∀ {xs : List SV}, (∀ x ∈ xs, okV n x) → SvsT n led xs xs
 | [], _ => .nil
 | x :: r, h => .cons (svT_ok (h x (.head _))) (svsT_ok fun y hy => h y (.tail _ hy))
theorem lk_app {x : Str} {y : SV} {m : List (Str × SV)} : ∀ {l : List (Str × SV)}, lk x l = some y → lk x (l ++ m) = some y
 | [], h => by cases h
 | (a, v) :: r, h => by
  have h' : lk x ((a, v) :: r) = some y := h
  show lk x ((a, v) :: (r ++ m)) = some y
  unfold lk at h' ⊢
  cases q : Fast.sEq x a with
  | true => rw [q] at h'; exact h'
  | false => rw [q] at h'; exact lk_app h'
theorem trim_pre {n : Nat} {loc more : List (Str × SV)} {led led' : List SO} (hl : okF n loc) (h : SosT n led (led.take n) led') : Trim n ⟨loc ++ more, led⟩ ⟨loc, led'⟩ :=
 ⟨fun x y hx => ⟨y, lk_app hx, svT_ok (okF_mem hl _ (lk_mem hx))⟩, h⟩
noncomputable def hl : List Nat → Bool → Bool → List Nat → List (List Nat) → List (List Nat) × List Nat
 | [], _, _, p, res => (res, p)
 | c :: r, e, q, p, res =>
  if e then hl r false q (p ++ [c]) res
  else if q then (if c = 92 then hl r true q p res else if c = 34 then hl r e false (p ++ [c]) res else hl r e q (p ++ [c]) res)
  else if c = 44 then hl r e q [] (res ++ [p])
  else if c = 34 then hl r e true (p ++ [c]) res
  else hl r e q (p ++ [c]) res
noncomputable def txL (l : List (List Nat)) : List SV := l.map fun x => .str (tx x)
theorem okV_txL (n : Nat) (l : List (List Nat)) : ∀ x ∈ txL l, okV n x := fun x hx => by
 obtain ⟨y, _, rfl⟩ := List.mem_map.mp hx
 trivial
theorem ifT_of {c : Bool} {a b : Prop} (h1 : c = true → a) (h2 : c = false → b) : ifT c a b := by
 cases c with
 | true => exact h1 rfl
 | false => exact h2 rfl
theorem sg_eq (c d : Nat) : Fast.sEq (sgS c) (sgS d) = decide (c = d) := by
 cases h : Fast.sEq (sgS c) (sgS d) with
 | true =>
  have := sEq_true h
  have e : c = d := by
   have := congrArg (fun s : Str => s.cps.toList) this
   simpa [sgS] using this
  exact (decide_eq_true e).symm
 | false =>
  have e : c ≠ d := fun e => by
   subst e
   exact absurd rfl (sEq_false h)
  exact (decide_eq_false e).symm
section
variable (P : Params) (b : Str)
theorem http_trim {part : List Nat} {e q : Bool} {c : Str} {res : List (List Nat)} {j : Nat} : Trim 2 (hstc b (tx part) e q c [.list (txL res), .it true (.str b) j]) (hst b (tx part) e q [.list (txL res), .it true (.str b) j]) :=
 trim_pre (loc := [("s", .str b), ("res", .obj 0), ("part", .str (tx part)), ("escape", .bool e), ("quote", .bool q)]) (more := [("cur", .str c)]) ⟨trivial, (by show 0 < 2; decide), trivial, trivial, trivial, trivial⟩ (.cons (.list (svsT_ok (okV_txL 2 res))) (.cons (.it (.same trivial)) .nil))
theorem http_loop (hb : b.length ≤ 1000000) (k : Kt) : ∀ (rest : List Nat) (j : Nat) (e q : Bool) (part : List Nat) (res : List (List Nat)), part.length + rest.length ≤ b.length → res.length + rest.length ≤ b.length →
  (∀ e' q', k .next (hst b (tx (hl rest e q part res).2) e' q' [.list (txL (hl rest e q part res).1), .gone])) →
  forE (bindT ns771 (forTgt fr771)) (fun st k => ev (cfH P) 35 ns771 (.sts (forBody fr771)) st k) (.str b) (b.cps.toList.map fun c => .str (sgS c)) (.it true (.str b)) 1 j (rest.map fun c => .str (sgS c))
   (hst b (tx part) e q [.list (txL res), .it true (.str b) j]) k := by
 intro rest
 induction rest with
 | nil => intro j e q part res h1 h2 hk; exact ⟨rfl, rfl, hk e q⟩
 | cons c r ih =>
  intro j e q part res h1 h2 hk
  rw [List.length_cons] at h1 h2
  refine ⟨rfl, rfl, ?_⟩
  show bindT ns771 (forTgt fr771) (.str (sgS c)) (hst b (tx part) e q [.list (txL res), .it true (.str b) (j + 1)]) _
  rw [http_turn]
  have hs : (tx part).length + (sgS c).length ≤ sizeLine := by
   rw [tx_len, sgS_len, sizeLine_eq]; lia
  have ea : tx part ++ sgS c = tx (part ++ [c]) := by rw [← tx_one, tx_append]
  have e92 : Fast.sEq (sgS c) "\\" = decide (c = 92) := sg_eq c 92
  have e34 : Fast.sEq (sgS c) "\"" = decide (c = 34) := sg_eq c 34
  have e44 : Fast.sEq (sgS c) "," = decide (c = 44) := sg_eq c 44
  rw [e92, e34, e44, ea]
  have go : ∀ (e' q' : Bool) (p' : List Nat) (res' : List (List Nat)), p'.length + r.length ≤ b.length → res'.length + r.length ≤ b.length → hl (c :: r) e q part res = hl r e' q' p' res' →
    ∃ st₃, Trim 2 (hstc b (tx p') e' q' (sgS c) [.list (txL res'), .it true (.str b) (j + 1)]) st₃ ∧ forE (bindT ns771 (forTgt fr771)) (fun st k => ev (cfH P) 35 ns771 (.sts (forBody fr771)) st k) (.str b) (b.cps.toList.map fun c => .str (sgS c)) (.it true (.str b)) 1 (j + 1) (r.map fun c => .str (sgS c)) st₃ k :=
   fun e' q' p' res' a1 a2 he => ⟨_, http_trim b, ih (j + 1) e' q' p' res' a1 a2 fun e'' q'' => by rw [← he]; exact hk e'' q''⟩
  have lp : (part ++ [c]).length + r.length ≤ b.length := by rw [List.length_append]; simp; lia
  have lr : res.length + r.length ≤ b.length := by lia
  refine ifT_of (fun h => ⟨hs, ?_⟩) fun h => ifT_of (fun h3 => ifT_of (fun h4 => ?_) fun h4 => ifT_of (fun h5 => ⟨hs, ?_⟩) fun h5 => ⟨hs, ?_⟩) fun h3 => ifT_of (fun h4 => ⟨?_, ?_⟩) fun h4 => ifT_of (fun h5 => ⟨hs, ?_⟩) fun h5 => ⟨hs, ?_⟩
  ·exact go false q (part ++ [c]) res lp lr (by subst h; simp [hl])
  ·exact go true q part res (by lia) lr (by subst h h3; simp [hl, of_decide_eq_true h4])
  ·exact go e false (part ++ [c]) res lp lr (by subst h h3; simp [hl, of_decide_eq_true h5])
  ·exact go e q (part ++ [c]) res lp lr (by subst h h3; simp [hl, of_decide_eq_false h4, of_decide_eq_false h5])
  ·show (txL res).length ≤ sizeLine
   rw [show (txL res).length = res.length from List.length_map _, sizeLine_eq]; lia
  ·have := go e q [] (res ++ [part]) (by simp; lia) (by simp; lia) (by subst h h3; simp [hl, of_decide_eq_true h4])
   have ex : txL res ++ [.str (tx part)] = txL (res ++ [part]) := by simp [txL]
   rw [ex]
   exact this
  ·exact go e true (part ++ [c]) res lp lr (by subst h h3; simp [hl, of_decide_eq_true h5])
  ·exact go e q (part ++ [c]) res lp lr (by subst h h3; simp [hl, of_decide_eq_false h4, of_decide_eq_false h5])
end
theorem quote_keeps {w : World} {A : Around} {s : Shared} {a : Str} {t : Tok} (X : (KK w.params).In s.heap) (G : GlobOk s.heap) (hh : A.handled = none) (hd : A.depth + 1 + 40 < recursionLimit) (hu : A.units + 3 + 8 * 40 < cLine) (hl : a.length ≤ 1000000) :
  codeAny (model prog w) A (.call (.ref 759) ⟨[.str a t], []⟩) (fun r s' => ∃ u, r = .ok (.ret (.str (tx (wordS a.cps.toList)) u)) ∧ Keeps s s') s := by
 have h0 : hideAll s.heap (([] : List (Addr × Obj)).map (·.1)) = s.heap := rfl
 have da : Den s.heap ⟨[], []⟩ (.str a) (.str a t) := ⟨⟨t, rfl⟩, by rw [sizeLine_eq]; lia⟩
 refine enter_top (C := cfQ w.params false) (e := f759) (svs := [.str a]) true [] ⟨[], []⟩ [] (fok759 _) (noCell_sound (by kernel_rfl)) (fun p hp => nomatch hp) List.nodup_nil rfl .nil (by rw [h0]; exact X) (by rw [h0]; exact G) (fun h => nomatch h) hh (by lia) (.cons (by rw [h0]; exact da) .nil) rfl ?_
 intro F' h₁ tt ok' eA eS eh eB eQ R
 have kn : ∀ b o, s.heap.get? b = some o → F'.h₀.get? b = some o := fun b o q => by rw [eh]; exact q
 have goal : wpAny (model prog w) F'.A (execs (fBody s759) F'.env) (fun f s' => ∃ u, f = .ret (.str (tx (wordS a.cps.toList)) u) ∧ Keeps s s') (fun _ _ => False) { s with heap := h₁, toks := tt } := by
  refine wpAny_mono (sound (cokQ w false) 40 F' (fun _ _ => False) (.sts (fBody s759)) ⟨[("s", .str a)], []⟩ (fun r st' => r = .ret (.str (tx (wordS a.cps.toList)))) ⟨[], []⟩ { s with heap := h₁, toks := tt } (fun c s' => ∃ u, c = .fl (.ret (.str (tx (wordS a.cps.toList)) u)) ∧ Keeps s s') ok' (by rw [eA]; show A.depth + 1 + 40 < _; lia) (by rw [eA]; show A.units + 3 + 8 * 40 < _; lia) ?_ R ?_) (fun f s' z => ?_) fun _ _ z => z
  ·rw [eS]
   show ev (cfQ w.params false) 40 (fScope s759).names (.sts (fBody s759)) { loc := [("s", .str a)], led := [] } _
   rw [quote_ev]
   refine ifT_of (fun q => ?_) fun q => ⟨rfl, rfl, ?_, fun hg => ?_, fun hb => ⟨rfl, rfl, hl, ?_⟩⟩
   ·have hz : a.length = 0 := by
     have : ((a.length : Int)) = 0 := by simpa using q
     lia
    have : a.cps.toList = [] := by
     have h0 : a.cps.size = 0 := hz
     exact Array.toList_eq_nil_iff.mpr (Array.eq_empty_of_size_eq_zero h0)
    rw [this]; rfl
   ·intro hz
    rw [hz] at q; exact absurd q (by decide)
   ·have hz : a.length ≠ 0 := by
     intro hz
     rw [hz] at q; exact absurd q (by decide)
    show SR.ret (.str a) = _
    have := word_good hz hg
    rw [this]
   ·show SR.ret _ = SR.ret _
    rw [word_bad hb]
  ·rintro r st' more c s' rfl R' nx d
   cases c with
   | fl f =>
    cases f with
    | ret v =>
     obtain ⟨⟨u, rfl⟩, _⟩ := d
     refine ⟨u, rfl, s'.heap, s'.toks, ?_, ?_⟩
     ·have g1 : s'.gens = s.gens := nx.quiet eQ
      have g2 : s'.drawn = s.drawn := nx.drawn
      have g3 : s'.os = s.os := nx.os
      obtain ⟨a1, a2, a3, a4, a5⟩ := s'
      dsimp only at g1 g2 g3
      subst g1 g2 g3
      rfl
     ·intro b o q
      obtain ⟨m, news, lw, X'⟩ := R'
      exact X'.fr.keep b o (kn b o q)
    | _ => exact d.elim
   | _ => exact d.elim
  ·obtain ⟨u, e, k⟩ := z
   cases e
   exact ⟨u, rfl, k⟩
 refine wpAny_mono goal (fun f s' z => ?_) fun _ _ z => z.elim
 obtain ⟨u, rfl, k⟩ := z
 exact ⟨u, rfl, k⟩
noncomputable def s751 : Stmt := stAt 24 B01
noncomputable def f751 : FnE := ⟨751, 1, ["split_command"], [], fBody s751, fScope s751, "join", .ref 750, []⟩
theorem fok751 (P : Params) : FnOk (KK P) f751 := FnOk.of (by kernel_rfl) (by kernel_rfl) ⟨_, _, _, _, (by kernel_rfl : (KK P).lookup 751 = some (o751 P)), rfl, rfl, fun _ _ => rfl, rfl, rfl, fun s vs X h => by
 obtain ⟨a, rfl⟩ := len1 h
 exact BindsTo.of_eq (by kernel_rfl)⟩
noncomputable def plainNs : List (Str × NameKind) → Bool
 | [] => true
 | (_, k) :: r => match k with
  | .cell => false
  | .free => false
  | _ => plainNs r
theorem plainNs_ok : ∀ {l : List (Str × NameKind)}, plainNs l = true → ∀ x ∈ l, x.2 ≠ .cell ∧ x.2 ≠ .free
 | (a, k) :: r, h, x, hx => by
  unfold plainNs at h
  split at h
  ·cases h
  ·cases h
  ·rename_i h1 h2
   rcases List.mem_cons.mp hx with rfl | hx
   ·exact ⟨h1, h2⟩
   ·exact plainNs_ok h x hx
noncomputable def isLoc (k : Option NameKind) : Bool := match k with
 | some .local => true
 | _ => false
noncomputable def isGlb (k : Option NameKind) : Bool := match k with
 | some .globalImplicit => true
 | _ => false
theorem isLoc_eq {k : Option NameKind} (h : isLoc k = true) : k = some .local := by
 unfold isLoc at h; split at h
 ·rfl
 ·cases h
theorem isGlb_eq {k : Option NameKind} (h : isGlb k = true) : k = some .globalImplicit := by
 unfold isGlb at h; split at h
 ·rfl
 ·cases h
noncomputable def scGen (sc : Scope) : Bool := !sc.isCoroutine && (plainNs sc.names && (isLoc (nmKind ".0" sc.names) && (isLoc (nmKind "arg" sc.names) && (isGlb (nmKind "quote" sc.names) && kindFn sc.kind))))
theorem jr_eq : ∃ n p1 p2 p3 p4 p5 p6 p7 p8 p9 p10 sc, fBody s751 = [.Return (some (.Call (.Attribute (.Constant (.str " ") n p1) "join" p2) [.GeneratorExp (.Call (.Name "quote" p3) [.Name "arg" p4] [] p5) [⟨.Name "arg" p6, .Name "split_command" p7, [], 0⟩] sc p8] [] p9)) p10] ∧
  (p2.endLine == p9.line) = true ∧ scGen sc = true :=
 let a := stAt 0 (fBody s751); let e := sEx a
 ⟨kK e [0, 0], kp e [0, 0], kp e [0], kp e [1, 0, 0], kp e [1, 0, 1], kp e [1, 0], kp e [1, 1], kp e [1, 2], kp e [1], kp e [], a.pos, geSc (kid e [1]), by kernel_rfl, by kernel_rfl, by kernel_rfl⟩
noncomputable def wordT (x : Str) : Str := tx (wordS x.cps.toList)
section
variable {w : World}
theorem join_elt {A : Around} {E : Value → Shared → Prop} {h₀ : Heap} {s : Shared} {sc : Scope} {Cc : Addr} {code : Value} {env : Env} {m : Str → Option Value} {a : Str} {t : Tok} {p3 p4 p5 : Pos} (X : (KK w.params).In h₀) (G : GlobOk h₀) (kp : ∀ b o, h₀.get? b = some o → s.heap.get? b = some o)
  (hg : env.globals = mainGlobals) (hsc : scGen sc = true) (hn : s.heap.Ns Cc m) (hm : m "arg" = some (.str a t)) (hl : a.length ≤ 1000000) (hh : A.handled = none) (hd : A.depth + 1 + 40 < recursionLimit) (hu : A.units + 3 + 8 * 40 < cLine) :
  wpAny (model prog w) A (eval (.Call (.Name "quote" p3) [.Name "arg" p4] [] p5) (genEnv sc [] Cc code builtinsNs env)) (fun y s₃ => (∃ u, y = .str (wordT a) u) ∧ Keeps s s₃) E s := by
 unfold scGen at hsc
 simp only [Bool.and_eq_true, Bool.not_eq_true'] at hsc
 obtain ⟨c1, c2, c3, c4, c5, c6⟩ := hsc
 have hk : sc.kind = .function := by
  unfold kindFn at c6
  split at c6
  ·assumption
  ·cases c6
 have n1 : sc.names.lookup ("arg" : Str) = some NameKind.local := by rw [← nmKind_eq]; exact isLoc_eq c4
 have n2 : sc.names.lookup ("quote" : Str) = some NameKind.globalImplicit := by rw [← nmKind_eq]; exact isGlb_eq c5
 obtain ⟨mg, mb, G1, G2, G3⟩ := G.ns
 have XK : (KK w.params).In s.heap := X.keeps kp
 have hq : mg "quote" = some (.ref 759) := mg_of X G1 (by kernel_rfl)
 refine Call_ (Calls.Name_function_global hk n2 (Calls.loadGlobal_global (by show s.heap.Ns env.globals mg; rw [hg]; exact G1.keeps kp) hq ?_) (by decide))
 refine callWith_any (K := KK w.params) rfl (spliced_more (wpAny_Name (wpAny_loadName_local hk n1 hn hm (spliced_none ?_)) (by decide)) rfl)
 refine ⟨⟨XK, by kernel_rfl⟩, wpAny_call (codeAny_mono (quote_keeps XK (G.keeps kp) hh hd hu hl) fun r s' z => ?_)⟩
 obtain ⟨u, rfl, k⟩ := z
 exact ⟨⟨u, rfl⟩, k⟩
end
set_option maxHeartbeats 2000000
section
variable {w : World} {F : Fm} {ads : Wd} {st : St}
theorem rep_tab {h : Heap} {i : Nat} {p : Addr} (R : Rep w F ads st h) (hi : st.led[i]? = some (.tab p)) : ∃ ps, h.get? p = some (tabO ps) ∧ TriplesOk ps.toList ∧ F.h₀.get? p = none ∧
  ∀ h' ps', h'.get? p = some (tabO ps') → TriplesOk ps'.toList → (∀ b, b ≠ p → ∀ o, h.get? b = some o → h'.get? b = some o) → Rep w F ads st h' := by
 obtain ⟨m, news, lw, X⟩ := R
 obtain ⟨pre, ps, post, a, dd, h1, h2, h3, h4⟩ := X.led.at hi
 obtain ⟨rfl, vs, c3, rfl⟩ := h3.inv
 ·have z := X.nw (p, tabO vs) (by rw [h1]; simp)
  refine ⟨vs, z.1, c3, z.2.2, fun h' ps' g1 g4 hs => ?_⟩
  have := rep_set1 X h1 (h4 (.tab p) _ (One.tab g4)) g1 hs
  have e : st.led.set i (.tab p) = st.led := by
   apply List.ext_getElem?
   intro j
   rw [List.getElem?_set]
   split
   ·rename_i q
    subst q
    split
    ·exact hi.symm
    ·rename_i q2
     rw [List.getElem?_eq_none (by lia)] at hi; cases hi
   ·rfl
  have e2 : ({ st with led := st.led.set i (.tab p) } : St) = st := by rw [e]
  rw [e2] at this
  exact this
end
theorem codeFacts (P : Params) : ∃ vs sl, o750 P = ⟨.type "code", none, .fields vs, sl⟩ ∧ vs.getD 11 .none = .ref 746 ∧ (∃ f t, vs.getD 18 .none = .str f t) ∧ (∃ n t, vs.getD 7 .none = .int n t) ∧ (∃ b, vs.getD 9 .none = .bool b) ∧ (∃ n t, vs.getD 10 .none = .int n t) :=
 ⟨_, _, rfl, rfl, ⟨_, _, rfl⟩, ⟨_, _, rfl⟩, ⟨_, rfl⟩, ⟨_, _, rfl⟩⟩
theorem tableAt_of {P : Params} {h : Heap} {ps : Array Value} (X : (KK P).In h) (ho : h.get? 746 = some (tabO ps)) : h.TableAt 750 746 ps := by
 have hc := X _ _ (by kernel_rfl : (KK P).lookup 750 = some (o750 P))
 exact ⟨⟨_, _, hc, rfl, rfl, rfl⟩, ho⟩
theorem genexprCodeT {M : Model} {A : Around} {E : Value → Shared → Prop} {s : Shared} {env : Env} {c P : Addr} {ps : Array Value} {pos : Pos} {qualname : Str} {scope : Scope} {Q : Value → Shared → Prop} (hc : env.code = .ref c) (hok : s.heap.IsCode c P ps) (htab : s.heap.TableAt c P ps)
  (hQ : ∀ code h' tk ps', Heap.ExtBut P s.heap h' → h'.IsCode c P ps' → h'.get? P = some (tabO ps') → Q code { s with heap := h', toks := tk }) : wpAny M A (genexprCode env pos qualname scope) Q E s := by
 cases hnf : codeAmong pos ps.toList with
 | some cv => exact wpAny_genexprCode_hit hc hok hnf (hQ cv s.heap s.toks ps (Heap.ExtBut.refl _ _) hok htab.2)
 | none => exact wpAny_genexprCodeX hc hok htab hnf fun c' h' tk a b b2 d e f g => hQ (.ref c') h' tk _ a d f.2
theorem isCode_of {P : Params} {h : Heap} {o : Obj} {ps : Array Value} (X : (KK P).In h) (ho : h.get? 746 = some o) (hd : o.data = .fields ps) (ht : TriplesOk ps.toList) : h.IsCode 750 746 ps := by
 obtain ⟨vs, sl, e, a, ⟨f, t, b⟩, ⟨n, tn, c⟩, ⟨bb, d⟩, ⟨n2, t2, g⟩⟩ := codeFacts P
 have hc := X _ _ (by kernel_rfl : (KK P).lookup 750 = some (o750 P))
 rw [e] at hc
 exact ⟨_, vs, f, t, n, tn, bb, n2, t2, o, hc, rfl, a, b, c, d, g, ho, hd, ht, by decide⟩
theorem passing_all (n : Nat) : passing (fun _ => true) n 0 = List.range n := by
 unfold passing; rw [List.drop_zero]; exact List.filter_eq_self.mpr fun _ _ => rfl
set_option maxHeartbeats 4000000
noncomputable def joinF (svs : List SV) (st : St) (k : Kt) : Prop := match svs with
 | [.dat d] => match d with
  | .list ds => match st.led with
   | .tab p :: rest => p = 746 ∧ ∃ ws : List Str, ds = ws.map .str ∧ (∀ x ∈ ws, x.length ≤ 1000000) ∧ JoinOk " " (ws.map wordT) = true ∧ (Txt.join " " (ws.map wordT)).length ≤ sizeLine ∧ k (.v (.str (Txt.join " " (ws.map wordT)))) st
   | _ => False
  | _ => False
 | _ => False
noncomputable def joinSp : SpE := ⟨751, 1, 120, joinF⟩
theorem joinF_cases {svs : List SV} {st : St} {k : Kt} (h : joinF svs st k) : ∃ (ws : List Str) (rest : List SO), svs = [.dat (.list (ws.map .str))] ∧ st.led = .tab 746 :: rest ∧ (∀ x ∈ ws, x.length ≤ 1000000) ∧ JoinOk " " (ws.map wordT) = true ∧ (Txt.join " " (ws.map wordT)).length ≤ sizeLine ∧ k (.v (.str (Txt.join " " (ws.map wordT)))) st := by
 unfold joinF at h
 split at h
 ·split at h
  ·split at h
   ·rename_i hl
    obtain ⟨rfl, ws, rfl, a, b, c, d⟩ := h
    exact ⟨ws, _, rfl, hl, a, b, c, d⟩
   ·exact h.elim
  ·exact h.elim
 ·exact h.elim
theorem clOf_none {cells : List (Str × Addr)} : ∀ {l : List (Str × NameKind)} {acc : List (Str × Addr)}, (∀ x ∈ l, x.2 ≠ .free) → clOf cells l acc = acc
 | [], _, _ => rfl
 | (x, k) :: r, acc, h => by
  unfold clOf
  split
  ·exact absurd rfl (h (x, .free) (.head _))
  ·exact clOf_none fun y hy => h y (.tail _ hy)
theorem gens_done {a b : Array GenState} {gs : GenState} (hb : gs.bare = true) (h : GenOnlyQ a.size (a.push gs) b) : (∀ (i : Nat) (x : GenState), a[i]? = some x → b[i]? = some x) ∧ (∀ (i : Nat) (x : GenState), b[i]? = some x → a[i]? = some x ∨ x.bare = true) := by
 have old : ∀ (i : Nat), i ≠ a.size → (a.push gs)[i]? = a[i]? := fun i hi => by
  rw [Array.getElem?_push, if_neg hi]
 have lt : ∀ (i : Nat) (x : GenState), a[i]? = some x → i ≠ a.size := fun i x e q => by
  subst q
  simp at e
 rcases h with rfl | ⟨⟨_, ho⟩, hg⟩
 ·refine ⟨fun i x e => by rw [old i (lt i x e)]; exact e, fun i x e => ?_⟩
  by_cases q : i = a.size
  ·subst q
   rw [Array.getElem?_push_size] at e
   cases e; exact .inr hb
  ·rw [old i q] at e; exact .inl e
 ·refine ⟨fun i x e => by rw [ho i (lt i x e), old i (lt i x e)]; exact e, fun i x e => ?_⟩
  by_cases q : i = a.size
  ·exact .inr (hg x (q ▸ e))
  ·rw [ho i q, old i q] at e; exact .inl e
theorem strValues_get (l : List (Str × Tok)) (j : Nat) : (strValues l).toArray[j]? = (l[j]?).map fun p => Value.str p.1 p.2 := by
 simp [strValues]
theorem code_table {h : Heap} {c P : Addr} {ps : Array Value} (hc : h.IsCode c P ps) : ∃ op, h.get? P = some op ∧ op.data = .fields ps ∧ TriplesOk ps.toList := by
 obtain ⟨_, _, _, _, _, _, _, _, _, op, _, _, _, _, _, _, _, e1, e2, e3, _⟩ := hc
 exact ⟨op, e1, e2, e3⟩
theorem join_ok {w : World} {C : Cf} (hK : C.K = KK w.params) (hC : C.known = true) : SpOk w C joinSp := by
 obtain ⟨nn, p1, p2, p3, p4, p5, p6, p7, p8, p9, p10, sc, e, hp, hsc⟩ := jr_eq
 have hsc0 := hsc
 unfold scGen at hsc
 simp only [Bool.and_eq_true, Bool.not_eq_true'] at hsc
 obtain ⟨c1, c2, c3, c4, c5, c6⟩ := hsc
 have hkd : sc.kind = .function := by
  unfold kindFn at c6
  split at c6
  ·assumption
  ·cases c6
 have hnames := plainNs_ok c2
 refine ⟨by rw [hK]; kernel_rfl, ?_⟩
 intro F A ads st s svs vs k Q Rr ok hA hh hd hu h R D hl' T hR
 obtain ⟨ws, rest, rfl, hled, hws, hj, hjl, hk⟩ := joinF_cases h
 have okY : FmOk (cfK w.params) F := fm_same hK.symm ok (by first | exact fun _ => rfl | exact fun _ => by assumption | exact fun h => h)
 have hq : F.quiet = false := ok.loud hC
 have d40 : joinSp.d = 120 := rfl
 rw [d40] at hd hu
 refine enter_sub (C := cfK w.params) (e := f751) (svs := [.dat (.list (ws.map .str))]) (led₁ := [.tab 746]) (led₂ := rest) (fok751 _) okY (fun _ => hA hC) hh (by lia) R D hl' hled ⟨trivial, trivial⟩ (fun x hx => by rw [List.mem_singleton.mp hx]; exact trivial) List.nodup_nil fun F' W Wc h₁ t ok' eA eS eB eT eZ eL R0' back bv => ?_
 have R' : Rep w F' W ⟨[("split_command", .dat (.list (ws.map .str)))], [.tab 746]⟩ h₁ := wc_nil eZ eL R0'
 have eN : F'.sc.names = (fScope s751).names := by rw [eS]; rfl
 have hcode : F'.env.code = .ref 750 := eT.2.2
 have hdep : F'.A.depth = A.depth + 1 := by rw [eA]; rfl
 have huni : F'.A.units = A.units + 3 := by rw [eA]; rfl
 have fin : ∀ s' u, Rep w F' W ⟨[("split_command", .dat (.list (ws.map .str)))], [.tab 746]⟩ s'.heap → Nx F s s' → Rr (.ok (.ret (.str (Txt.join " " (ws.map wordT)) u))) s' := fun s' u R2 nx => by
  have R3 := back [] _ _ _ (by rw [show W ++ (⟨[], []⟩ : Wd) = W from Wd.append_nil W]; exact R2)
  have e : ({ loc := st.loc, led := [.tab 746] ++ rest } : St) = st := by
   show St.mk st.loc (.tab 746 :: rest) = st
   rw [← hled]
  rw [e] at R3
  exact hR _ _ (T (.v (.str (Txt.join " " (ws.map wordT)))) st ⟨[], []⟩ (.v (.str _ u)) s' hk R3 nx ⟨⟨u, rfl⟩, hjl⟩)
 obtain ⟨ps, hg7, ht7, hn7, upd⟩ := rep_tab R' (i := 0) rfl
 have hclos : closureFor sc F'.env = pure [] := by
  rw [closureFor_eq fun x hx hf => absurd hf (hnames x hx).2, clOf_none fun x hx => (hnames x hx).2]
 have R1 : ∀ tt, Rep w F' W ⟨[("split_command", .dat (.list (ws.map .str)))], [.tab 746]⟩ ({ s with heap := h₁, toks := tt } : Shared).heap := fun tt => R'
 show wpAny (model prog w) F'.A (execs (fBody s751) F'.env) _ _ _
 rw [e]
 refine wpAny_execs_cons (wpAny_Return_some ?_)
 refine MethodCall_ (wpAny_Constant_str ?_) (mcall_eq (by unfold mcOk; rw [hp]; rfl))
 refine GM.join ?_
 refine callWith_plain (fun a e => nomatch e) rfl (spliced_more ?_ rfl)
 have lim1 : h₁.NoLimit := by
  obtain ⟨_, _, _, X⟩ := R'
  exact ok'.G.lim.keeps X.fr.keep
 have keep1 : ∀ b o, F'.h₀.get? b = some o → h₁.get? b = some o := fun b o q => by
  obtain ⟨_, _, _, X⟩ := R'
  exact X.fr.keep b o q
 have X0 : (KK w.params).In F'.h₀ := ok'.X
 refine wpAny_GeneratorExp_walksQD ok'.hand c1 hclos (fun y hy => (hnames y hy).1) (by rw [← nmKind_eq]; exact isLoc_eq c3) (by rw [← nmKind_eq]; exact isLoc_eq c4) hkd (by rw [hdep]; lia) ?_ (fun x => by rfl)
 refine nm_sv ok' (by rw [eN]; kernel_rfl) (sv := .dat (.list (ws.map .str))) (by kernel_rfl) (by kernel_rfl) (R1 _) fun u du => ?_
 obtain ⟨a, us, ds, rfl, hlst, hf, hrd, hle, hds⟩ := listDat_sound (v := .dat (.list (ws.map .str))) (k := fun ds => ds = ws.map .str) ok' (R1 (t + 1)) du rfl
 subst hds
 obtain ⟨l, rfl, hlw⟩ := rdL_strs hrd
 have ha : a < h₁.objs.size := by obtain ⟨_, q, _⟩ := hlst; exact Heap.lt_size q
 have h746 : (746 : Nat) < h₁.objs.size := Heap.lt_size hg7
 have ha7 : a ≠ 746 := fun e => by
  obtain ⟨o, q1, q2, n0, q3⟩ := hlst
  rw [e] at q1
  have q1' : h₁.get? 746 = some o := q1
  rw [hg7] at q1'
  cases q1'
  cases q3
 refine wpAny_pyIter_list hlst ⟨lim1.push _, ?_⟩
 have kpush : ∀ (oo : Obj) b o, h₁.get? b = some o → (h₁.push oo).get? b = some o := fun oo b o q => Heap.get?_push_of_some _ q
 refine genexprCodeT hcode (isCode_of (X0.keeps fun b o q => kpush _ b o (keep1 b o q)) (kpush _ _ _ hg7) rfl ht7) (tableAt_of (X0.keeps fun b o q => kpush _ b o (keep1 b o q)) (kpush _ _ _ hg7)) fun code h₃ tk ps' hx hcd hop2 => ?_
 obtain ⟨op, hop, hpd, htr⟩ := code_table hcd
 have k3 : ∀ b o, b ≠ 746 → h₁.get? b = some o → h₃.get? b = some o := fun b o hb q => hx b o hb (kpush _ b o q)
 have k0 : ∀ b o, F'.h₀.get? b = some o → h₃.get? b = some o := fun b o q => k3 b o (fun e => by rw [e, hn7] at q; cases q) (keep1 b o q)
 obtain ⟨mg, mb, G1, G2, G3⟩ := ok'.G.ns
 have hbm : mg "__builtins__" = some (.ref 4) := mg_of X0 G1 (by kernel_rfl)
 have X3 : (KK w.params).In h₃ := X0.keeps k0
 refine wpAny_builtinsFor (m := mg) (bm := 4) (by show h₃.Ns F'.env.globals mg; rw [ok'.gl]; exact G1.keeps k0) hbm (by decide) (X3 _ _ (by kernel_rfl : (KK w.params).lookup 4 = some (o4 w.params))) rfl rfl rfl ?_
 have hIg : h₃.get? h₁.objs.size = some { cls := .type "list_iterator", data := .fields #[.ref a, .int 0 0] } := hx _ _ (Nat.ne_of_gt h746) (Heap.get?_push_size _ rfl)
 have hag : h₃.IsList a (strValues l).toArray := by obtain ⟨o, q, r⟩ := hlst; exact ⟨o, k3 a o ha7 q, r⟩
 have lim3 : h₃.NoLimit := ok'.G.lim.keeps k0
 have lt0 : ∀ b o, F'.h₀.get? b = some o → b < h₁.objs.size := fun b o q => Heap.lt_size (keep1 b o q)
 have lwl : ws.length = l.length := by rw [← hlw]; simp
 have szl : (strValues l).toArray.size = l.length := by simp [strValues]
 refine ⟨h₁.objs.size, [h₁.objs.size, a], [h₁.objs.size], (strValues l).toArray.size, _, _, fun _ => true, fun i y => ∃ x u, ws[i]? = some x ∧ y = .str (wordT x) u, rfl, fun A' hA' => Walks.list hA' _ _ (Nat.ne_of_lt ha) _, ⟨⟨_, hIg, rfl, rfl⟩, hag⟩, ?_, lim3, ?_, fun href hhref => ⟨?_, ?_⟩, fun a' h₅ tk' gs hb' hlt hsz hk5 Wk hat => ?_⟩
 ·intro b hb
  rcases List.mem_cons.mp hb with rfl | hb
  ·exact Heap.lt_size hIg
  ·rw [List.mem_singleton.mp hb]
   exact Nat.lt_of_lt_of_le ha (Nat.le_of_lt (Heap.lt_size hIg))
 ·intro hm
  obtain ⟨o, q, _⟩ := ok'.G.stat
  have := lt0 _ _ q
  rw [List.mem_singleton.mp hm] at this
  exact Nat.lt_irrefl _ this
 ·intro A' E' i v s₂ m₂ _ _ _ _ _ _ _
  exact wpAny_pure ⟨rfl, s₂.heap, s₂.toks, rfl, fun _ _ q => q⟩
 ·intro A' E' i v s₂ m₂ hA' hD' hU' hP _ hns hm hkp
  rw [strValues_get, Option.map_eq_some_iff] at hP
  obtain ⟨⟨x, tx'⟩, hli, rfl⟩ := hP
  have hwi : ws[i]? = some x := by rw [← hlw, List.getElem?_map, hli]; rfl
  refine wpAny_mono (join_elt (h₀ := F'.h₀) X0 ok'.G (fun b o q => hkp b (List.mem_range.mpr (Heap.lt_size (k0 b o q))) (fun hm => ?_) o (hhref b o (k0 b o q))) ok'.gl hsc0 hns hm (hws x (List.mem_of_getElem? hwi)) hA' (by lia) (by lia)) (fun y s₃ z => ?_) fun _ _ z => z
  ·have := lt0 _ _ q
   rw [List.mem_singleton.mp hm] at this
   exact Nat.lt_irrefl _ this
  ·obtain ⟨⟨u, e⟩, k⟩ := z
   exact ⟨⟨x, u, hwi, e⟩, k⟩
 ·refine spliced_none ?_
  rw [passing_all] at Wk
  rw [szl] at Wk hat
  refine SC.joinGen Wk.in4_2 (fun i s' z => z.1.typeIs) hat ?_ (List.mem_cons_self ..) ?_ (fun s' lt hm hacc => ?_) ?_
  ·intro b hb
   show b < h₅.objs.size
   rw [hsz]
   rcases List.mem_cons.mp hb with rfl | hb
   ·exact Nat.lt_succ_self _
   ·rcases List.mem_cons.mp hb with rfl | hb
    ·exact Nat.lt_succ_of_lt hlt
    ·exact Nat.lt_succ_of_lt (Nat.lt_trans (List.mem_range.mp hb) hlt)
  ·rintro j v ⟨i, _, x, u, _, rfl⟩
   exact ⟨_, _, rfl⟩
  ·have hl : lt.map (·.1) = ws.map wordT := by
    apply List.ext_getElem?
    intro j
    have hsz2 : lt.length = l.length := by
     have := hacc.1
     simpa [strValues] using this
    by_cases hj2 : j < l.length
    ·have hj' : j < lt.length := hsz2 ▸ hj2
     obtain ⟨i, hi, x, u, hwi, hv⟩ := hacc.2 j (.str lt[j].1 lt[j].2) (by rw [strValues_get, List.getElem?_eq_getElem hj']; rfl)
     have hij : i = j := by
      rw [List.getElem?_range hj2] at hi
      exact (Option.some.inj hi).symm
     subst hij
     injection hv with h1 _
     rw [List.getElem?_map, List.getElem?_map, List.getElem?_eq_getElem hj', hwi]
     simp [h1]
    ·rw [List.getElem?_eq_none (by simp; lia), List.getElem?_eq_none (by simp; lia)]
   rw [hl]
   refine ⟨hj, fun u k => ?_⟩
   have k5 : ∀ b o, b ≠ 746 → h₁.get? b = some o → s'.heap.get? b = some o := fun b o hb q => by
    refine hm.heap b o (fun hmem => ?_) (hk5 b o (k3 b o hb q))
    have hb1 := Heap.lt_size q
    have hb3 := Heap.lt_size (k3 b o hb q)
    rcases List.mem_cons.mp hmem with e | hmem
    ·rw [e] at hb3; exact Nat.lt_irrefl _ hb3
    ·rw [List.mem_singleton.mp hmem] at hb1; exact Nat.lt_irrefl _ hb1
   have h7' : s'.heap.get? 746 = some (tabO ps') := by
    refine hm.heap _ _ (fun hmem => ?_) (hk5 _ _ hop2)
    have hb3 := Heap.lt_size hop
    rcases List.mem_cons.mp hmem with e | hmem
    ·rw [← e] at hb3; exact Nat.lt_irrefl _ hb3
    ·rw [List.mem_singleton.mp hmem] at h746; exact Nat.lt_irrefl _ h746
   have R2 := upd s'.heap ps' h7' htr fun b hb o q => k5 b o hb q
   have gd := gens_done hb' hm.gens
   exact fin { s' with toks := k } u R2 ⟨hm.drawn, hm.os, gd.1, gd.2, fun q => by rw [hq] at q; cases q⟩
  ·rw [List.length_range, ← lwl]
   have : (ws.map PyData.str).length ≤ sizeLine := hle
   rwa [List.length_map] at this
set_option maxHeartbeats 1000000
noncomputable def lcElt : Expr → Expr
 | .ListComp a _ _ _ => a
 | _ => default
noncomputable def lcTgt : Expr → Expr
 | .ListComp _ [g] _ _ => g.target
 | _ => default
noncomputable def lcSc : Expr → Scope
 | .ListComp _ _ sc _ => sc
 | _ => default
noncomputable def lc771 : Expr := rVal (stAt 5 (fBody s771))
noncomputable def cn771 : List (Str × NameKind) := relab (lcSc lc771).names
noncomputable def httpC (P : Params) (loc : List (Str × SV)) (ys : List SV) (k : Kt) : Prop :=
 compE (bindT cn771 (lcTgt lc771)) none (fun st k => ev (cfH P) 33 cn771 (.ex (lcElt lc771)) st k) (.obj 0) ys (.it true (.obj 0)) 2 3 0 ys ⟨[], [.list ys, .gone, .it true (.obj 0) 0, .list []]⟩
  (fun stE => CompFin loc 2 3 stE fun v st₁ => k (.ret v) st₁)
theorem http_tail (P : Params) (b part : Str) (e q : Bool) (xs : List SV) (k : Kt) : ev (cfH P) 36 ns771 (.sts ((fBody s771).drop 4)) (hst b part e q [.list xs, .gone]) k =
   ifT ((part.length : Int) != 0) (xs.length ≤ sizeLine ∧ httpC P [("s", .str b), ("res", .obj 0), ("part", .str part), ("escape", .bool e), ("quote", .bool q)] (xs ++ [.str part]) k)
     (httpC P [("s", .str b), ("res", .obj 0), ("part", .str part), ("escape", .bool e), ("quote", .bool q)] xs k) := by
  kernel_rfl
theorem http_elt (P : Params) (x : Str) (ys zs : List SV) (j : Nat) (k : Kt) (D : St → Prop) : bindT cn771 (lcTgt lc771) (.str x) ⟨[], [.list ys, .gone, .it true (.obj 0) j, .list zs]⟩ (fun st₁ => testE none st₁ fun c st₂ => ifT c (ev (cfH P) 33 cn771 (.ex (lcElt lc771)) st₂ k) (D st₂)) =
   k (.v (.str (Txt.strip x))) ⟨[("part", .str x)], [.list ys, .gone, .it true (.obj 0) j, .list zs]⟩ := by
  kernel_rfl
theorem frzs_strs : ∀ l : List Str, frzs (l.map .str) = some (l.map .str)
 | [] => rfl
 | a :: r => by
  show (match frz1 (.str a) with | some d => (match frzs (r.map .str) with | some ds => some (d :: ds) | none => none) | none => none) = _
  rw [frzs_strs r]
  rfl
theorem svsT_strs (n : Nat) (led : List SO) (l : List Str) : SvsT n led (l.map .str) (l.map .str) := svsT_ok fun x hx => by
 obtain ⟨y, _, rfl⟩ := List.mem_map.mp hx
 trivial
theorem http_comp (P : Params) (loc : List (Str × SV)) (hloc : okF 2 loc) (all : List Str) (hall : all.length ≤ 1000001) (k : Kt) (hk : k (.ret (.dat (.list ((all.map Txt.strip).map .str)))) ⟨loc, [.list (all.map .str), .gone]⟩) : httpC P loc (all.map .str) k := by
 have loop : ∀ (rest : List Str) (j : Nat) (done : List Str), done.length + rest.length ≤ 1000001 → done ++ rest.map Txt.strip = all.map Txt.strip →
   compE (bindT cn771 (lcTgt lc771)) none (fun st k => ev (cfH P) 33 cn771 (.ex (lcElt lc771)) st k) (.obj 0) (all.map .str) (.it true (.obj 0)) 2 3 j (rest.map .str) ⟨[], [.list (all.map .str), .gone, .it true (.obj 0) j, .list (done.map .str)]⟩
    (fun stE => CompFin loc 2 3 stE fun v st₁ => k (.ret v) st₁) := by
  intro rest
  induction rest with
  | nil =>
   intro j done h1 h2
   rw [List.map_nil, List.append_nil] at h2
   subst h2
   refine ⟨rfl, rfl, ?_⟩
   exact ⟨_, _, ⟨loc, [.list (all.map .str), .gone]⟩, rfl, frzs_strs _, by rw [List.length_map, List.length_map, sizeLine_eq]; lia, by
    have := trim_pre (n := 2) (loc := loc) (more := []) (led := [.list (all.map .str), .gone, .gone, .list ((all.map Txt.strip).map .str)]) (led' := [.list (all.map .str), .gone]) hloc (.cons (.list (svsT_strs 2 _ all)) (.cons .gone .nil))
    rw [List.append_nil] at this; exact this, hk⟩
  | cons x r ih =>
   intro j done h1 h2
   rw [List.length_cons] at h1
   refine ⟨rfl, rfl, ?_⟩
   show bindT cn771 (lcTgt lc771) (.str x) ⟨[], [.list (all.map .str), .gone, .it true (.obj 0) (j + 1), .list (done.map .str)]⟩ _
   rw [http_elt]
   show (done.map SV.str).length ≤ sizeLine ∧ _
   refine ⟨by rw [List.length_map, sizeLine_eq]; lia, ⟨[], [.list (all.map .str), .gone, .it true (.obj 0) (j + 1), .list ((done ++ [Txt.strip x]).map .str)]⟩, ?_, ?_⟩
   ·have ex : (done.map SV.str) ++ [.str (Txt.strip x)] = (done ++ [Txt.strip x]).map .str := by simp
    rw [← ex]
    exact trim_pre (n := 4) (loc := []) (more := [("part", .str x)]) trivial (.cons (.list (svsT_strs 4 _ all)) (.cons .gone (.cons (.it (.keep (by decide))) (.cons (.list (by rw [ex]; exact svsT_strs 4 _ _)) .nil))))
   ·refine ih (j + 1) (done ++ [Txt.strip x]) (by rw [List.length_append]; simp; lia) ?_
    rw [List.append_assoc]; exact h2
 have := loop all 0 [] (by simpa using hall) rfl
 exact this
theorem thenT_next (f : St → Kt → Prop) (k : Kt) (st : St) : thenT f k .next st = f st k := rfl
noncomputable def hparts (l : List Nat) : List (List Nat) := if (hl l false false [] []).2 = [] then (hl l false false [] []).1 else (hl l false false [] []).1 ++ [(hl l false false [] []).2]
noncomputable def hitems (l : List Nat) : List Str := (hparts l).map fun x => Txt.strip (tx x)
theorem hl_len : ∀ (l : List Nat) (e q : Bool) (p : List Nat) (res : List (List Nat)), (hl l e q p res).1.length ≤ res.length + l.length
 | [], _, _, _, _ => Nat.le_refl _
 | c :: r, e, q, p, res => by
  unfold hl
  rw [List.length_cons]
  split
  ·have := hl_len r false q (p ++ [c]) res; lia
  ·split
   ·split
    ·have := hl_len r true q p res; lia
    ·split
     ·have := hl_len r e false (p ++ [c]) res; lia
     ·have := hl_len r e q (p ++ [c]) res; lia
   ·split
    ·have := hl_len r e q [] (res ++ [p]); rw [List.length_append] at this; simp at this; lia
    ·split
     ·have := hl_len r e true (p ++ [c]) res; lia
     ·have := hl_len r e q (p ++ [c]) res; lia
noncomputable def httpF (svs : List SV) (st : St) (k : Kt) : Prop := match svs with
 | [.str b] => b.length ≤ 1000000 ∧ k (.v (.dat (.list ((hitems b.cps.toList).map .str)))) st
 | _ => False
noncomputable def httpSp : SpE := ⟨771, 1, 60, httpF⟩
theorem httpF_cases {svs : List SV} {st : St} {k : Kt} (h : httpF svs st k) : ∃ b, svs = [.str b] ∧ b.length ≤ 1000000 ∧ k (.v (.dat (.list ((hitems b.cps.toList).map .str)))) st := by
 unfold httpF at h
 split at h
 ·exact ⟨_, rfl, h⟩
 ·exact h.elim
theorem http_ok {w : World} {C : Cf} (hK : C.K = KK w.params) (hC : C.known = true) : SpOk w C httpSp := by
 refine ⟨by rw [hK]; kernel_rfl, ?_⟩
 intro F A ads st s svs vs k Q Rr ok hA hh hd hu h R D hl' T hR
 replace hA : true = true → A.frames = some F.stk := fun _ => hA hC
 obtain ⟨b, rfl, hlen, hk⟩ := httpF_cases h
 have okY : FmOk (cfH w.params) F := fm_same hK.symm ok (by first | exact fun _ => rfl | exact fun _ => by assumption | exact fun h => h)
 have d40 : httpSp.d = 60 := rfl
 rw [d40] at hd hu
 refine call_sub (e := f771) (n := 40) (led₁ := []) (led₂ := st.led) (sound (cokH w) 40) (fok771 _) okY hA hh (by lia) (by lia) R D hl' rfl trivial (fun x hx => by rw [List.mem_singleton.mp hx]; exact trivial) List.nodup_nil ?_ T hR
 show ev (cfH w.params) 40 ns771 (.sts (fBody s771)) { loc := [("s", .str b)], led := [] } _
 rw [http_head]
 have hb : b.length = b.cps.toList.length := by simp [Str.length]
 refine http_loop w.params b hlen _ b.cps.toList 0 false false [] [] (by simp [hb]) (by simp [hb]) fun e' q' => ?_
 rw [thenT_next, http_tail]
 have h1 := hl_len b.cps.toList false false [] []
 rw [List.length_nil, Nat.zero_add] at h1
 have fin : ∀ (loc : List (Str × SV)) (led : List SO), ∃ x y led', (SR.ret (.dat (.list ((hitems b.cps.toList).map .str))) = .ret x ∨ (SR.ret (.dat (.list ((hitems b.cps.toList).map .str))) = .next ∧ x = .none)) ∧ SvT 0 led x y ∧ SosT 0 led (led.take 0) led' ∧ k (.v y) { loc := st.loc, led := led' ++ st.led } :=
  fun _ _ => ⟨_, _, [], .inl rfl, .same trivial, .nil, hk⟩
 have e1 : ∀ l : List (List Nat), (l.map tx).map SV.str = txL l := fun l => by simp [txL]
 refine ifT_of (fun h => ⟨?_, ?_⟩) fun h => ?_
 ·show (txL _).length ≤ sizeLine
  rw [show ∀ l, (txL l).length = l.length from fun l => List.length_map _, sizeLine_eq]; lia
 ·have hne : (hl b.cps.toList false false [] []).2 ≠ [] := fun e => by
   rw [e] at h
   exact absurd h (by decide)
  have ex : txL (hl b.cps.toList false false [] []).1 ++ [.str (tx (hl b.cps.toList false false [] []).2)] = ((hparts b.cps.toList).map tx).map .str := by
   rw [e1]; unfold hparts; rw [if_neg hne]; simp [txL]
  rw [ex]
  have hp : (hparts b.cps.toList).length ≤ 1000001 := by unfold hparts; rw [if_neg hne, List.length_append]; simp; lia
  refine http_comp w.params [("s", .str b), ("res", .obj 0), ("part", .str (tx (hl b.cps.toList false false [] []).2)), ("escape", .bool e'), ("quote", .bool q')] ⟨trivial, (by show 0 < 2; decide), trivial, trivial, trivial, trivial⟩ _ (by rw [List.length_map]; exact hp) _ ?_
  have : ((hparts b.cps.toList).map tx).map Txt.strip = hitems b.cps.toList := by rw [List.map_map]; rfl
  rw [this]
  exact fin [] _
 ·have he : (hl b.cps.toList false false [] []).2 = [] := by
   have : ((tx (hl b.cps.toList false false [] []).2).length : Int) = 0 := by simpa using h
   rw [tx_len] at this
   exact List.eq_nil_of_length_eq_zero (by lia)
  have ex : txL (hl b.cps.toList false false [] []).1 = ((hparts b.cps.toList).map tx).map .str := by
   rw [e1]; unfold hparts; rw [if_pos he]
  rw [ex]
  have hp : (hparts b.cps.toList).length ≤ 1000001 := by unfold hparts; rw [if_pos he]; lia
  refine http_comp w.params [("s", .str b), ("res", .obj 0), ("part", .str (tx (hl b.cps.toList false false [] []).2)), ("escape", .bool e'), ("quote", .bool q')] ⟨trivial, (by show 0 < 2; decide), trivial, trivial, trivial, trivial⟩ _ (by rw [List.length_map]; exact hp) _ ?_
  have : ((hparts b.cps.toList).map tx).map Txt.strip = hitems b.cps.toList := by rw [List.map_map]; rfl
  rw [this]
  exact fin [] _
noncomputable def s766 : Stmt := stAt 29 B01
noncomputable def f766 : FnE := ⟨766, 1, ["l"], [], fBody s766, fScope s766, "parse_keqv_list", .ref 765, []⟩
theorem fok766 (P : Params) : FnOk (KK P) f766 := FnOk.of (by kernel_rfl) (by kernel_rfl) ⟨_, _, _, _, (by kernel_rfl : (KK P).lookup 766 = some (o766 P)), rfl, rfl, fun _ _ => rfl, rfl, rfl, fun s vs X h => by
 obtain ⟨a, rfl⟩ := len1 h
 exact BindsTo.of_eq (by kernel_rfl)⟩
noncomputable def ns766 : List (Str × NameKind) := (fScope s766).names
noncomputable def fr766 : Stmt := stAt 1 (fBody s766)
noncomputable def tg766 : List Expr := match stAt 0 (forBody fr766) with
 | .Assign [.Tuple es _ _] _ _ => es
 | _ => []
noncomputable abbrev cfKv (P : Params) : Cf where
 K := KK P
 globs := []
 fns := [f766]
 cls := []
theorem cokKv (w : World) : CfOk w (cfKv w.params) := ⟨mem_cons' ⟨fok766 _, by kernel_rfl, noCell_sound (by kernel_rfl)⟩ mem_nil, mem_nil, (fun x v h => nomatch h), mem_nil, mem_nil, mem_nil⟩
theorem keqv_head (P : Params) (ds : List PyData) (c : SO) (k : Kt) : ev (cfKv P) 40 ns766 (.sts (fBody s766)) { loc := [("l", .dat (.list ds))], led := [c] } k =
   forE (bindT ns766 (forTgt fr766)) (fun st k => ev (cfKv P) 37 ns766 (.sts (forBody fr766)) st k) (.dat (.list ds)) (ds.map svOf) (.it true (.dat (.list ds))) 2 0 (ds.map svOf)
     ⟨[("l", .dat (.list ds)), ("parsed", .obj 1)], [c, .dic [], .it true (.dat (.list ds)) 0]⟩ (thenT (fun st k => ev (cfKv P) 38 ns766 (.sts ((fBody s766).drop 2)) st k) k) := by
  kernel_rfl
theorem keqv_ret (P : Params) (d : SV) (l : List SO) (k : Kt) : ev (cfKv P) 38 ns766 (.sts ((fBody s766).drop 2)) ⟨[("l", d), ("parsed", .obj 1)], l⟩ k = k (.ret (.obj 1)) ⟨[("l", d), ("parsed", .obj 1)], l⟩ := by
 kernel_rfl
theorem keqv_turn (P : Params) (d : SV) (x : Str) (l : List SO) (k : Kt) : bindT ns766 (forTgt fr766) (.str x) ⟨[("l", d), ("parsed", .obj 1)], l⟩ (fun st₁ => ev (cfKv P) 37 ns766 (.sts (forBody fr766)) st₁ k) =
   (((("=" : Str).length == 0) = false) ∧ (decide ((1 : Int) < -(2 ^ 63 : Int)) || decide ((1 : Int) ≥ 2 ^ 63)) = false ∧ x.length + 2 ≤ sizeLine ∧ (Txt.splitMax x "=" 1).length ≤ sizeLine ∧
     bindT ns766 (.Tuple tg766 0 default) (.dat (.list ((Txt.splitMax x "=" 1).map .str))) ⟨[("l", d), ("parsed", .obj 1), ("elt", .str x)], l⟩ fun st₂ => ev (cfKv P) 36 ns766 (.sts ((forBody fr766).drop 1)) st₂ k) := by
  kernel_rfl
theorem keqv_names : tg766.length = 2 ∧ ∀ (a b : SV) (st : St) (k : St → Prop), bindsT ns766 tg766 [a, b] st k = k { st with loc := put "v" b (put "k" a st.loc) } := ⟨by kernel_rfl, fun a b st k => by kernel_rfl⟩
theorem keqv_rest (P : Params) (d : SV) (x key v : Str) (c : SO) (fs : List (Str × SV)) (it : SO) (k : Kt) : ev (cfKv P) 36 ns766 (.sts ((forBody fr766).drop 1)) ⟨[("l", d), ("parsed", .obj 1), ("elt", .str x), ("k", .str key), ("v", .str v)], [c, .dic fs, it]⟩ k =
   (-(v.length : Int) ≤ 0 ∧ (0 : Int) < v.length ∧
     ifT (Fast.sEq (Txt.item v 0) "\"") (-(v.length : Int) ≤ -1 ∧ (-1 : Int) < v.length ∧ ifT (Fast.sEq (Txt.item v (-1)) "\"")
         (fs.length ≤ sizeLine ∧ k .next ⟨[("l", d), ("parsed", .obj 1), ("elt", .str x), ("k", .str key), ("v", .str (Txt.slice v (some 1) (some (-1))))], [c, .dic (put key (.str (Txt.slice v (some 1) (some (-1)))) fs), it]⟩)
         (fs.length ≤ sizeLine ∧ k .next ⟨[("l", d), ("parsed", .obj 1), ("elt", .str x), ("k", .str key), ("v", .str v)], [c, .dic (put key (.str v) fs), it]⟩))
       (fs.length ≤ sizeLine ∧ k .next ⟨[("l", d), ("parsed", .obj 1), ("elt", .str x), ("k", .str key), ("v", .str v)], [c, .dic (put key (.str v) fs), it]⟩)) := by
  kernel_rfl
noncomputable def unq (v : Str) : Str := match Fast.sEq (Txt.item v 0) "\"" with
 | true => match Fast.sEq (Txt.item v (-1)) "\"" with
  | true => Txt.slice v (some 1) (some (-1))
  | false => v
 | false => v
inductive KvOk : List Str → List (Str × Str) → Prop
 | nil : KvOk [] []
 | cons {e k v : Str} {es : List Str} {kvs : List (Str × Str)} : Txt.splitMax e "=" 1 = [k, v] → v.length ≠ 0 → e.length ≤ 1000000 → v.length ≤ 1000000 → KvOk es kvs → KvOk (e :: es) ((k, v) :: kvs)
noncomputable def dV (fs : List (Str × Str)) : List (Str × SV) := fs.map fun p => (p.1, .str p.2)
noncomputable def dput : List (Str × Str) → List (Str × Str) → List (Str × Str)
 | [], fs => fs
 | (k, v) :: r, fs => dput r (put k (unq v) fs)
theorem put_dV (k v : Str) : ∀ fs : List (Str × Str), put k (.str v) (dV fs) = dV (put k v fs)
 | [] => rfl
 | (y, a) :: r => by
  show put k (.str v) ((y, .str a) :: dV r) = _
  unfold put
  cases Fast.sEq k y with
  | true => rfl
  | false =>
   show (y, SV.str a) :: put k (.str v) (dV r) = (y, SV.str a) :: dV (put k v r)
   rw [put_dV k v r]
theorem put_len {α : Type} (k : Str) (v : α) : ∀ fs : List (Str × α), (put k v fs).length ≤ fs.length + 1
 | [] => Nat.le_refl _
 | (y, a) :: r => by
  unfold put
  cases Fast.sEq k y with
  | true => exact Nat.le_succ _
  | false =>
   show (put k v r).length + 1 ≤ r.length + 1 + 1
   have := put_len k v r
   omega
theorem fldT_dV (n : Nat) (led : List SO) : ∀ fs : List (Str × Str), FldT n led (dV fs) (dV fs)
 | [] => .nil
 | (k, v) :: r => .cons (.same trivial) (fldT_dV n led r)
theorem svOf_strs (l : List Str) : (l.map PyData.str).map svOf = l.map .str := by
 rw [List.map_map]; rfl
theorem keqv_loop (P : Params) (ds : List PyData) (i : Int) (k : Kt) : ∀ (elts : List Str) (kvs : List (Str × Str)) (j : Nat) (fs : List (Str × Str)), KvOk elts kvs → fs.length + elts.length ≤ 1000001 →
  k .next ⟨[("l", .dat (.list ds)), ("parsed", .obj 1)], [.cell (some (.int i)), .dic (dV (dput kvs fs)), .gone]⟩ →
  forE (bindT ns766 (forTgt fr766)) (fun st k => ev (cfKv P) 37 ns766 (.sts (forBody fr766)) st k) (.dat (.list ds)) (ds.map svOf) (.it true (.dat (.list ds))) 2 j (elts.map .str)
   ⟨[("l", .dat (.list ds)), ("parsed", .obj 1)], [.cell (some (.int i)), .dic (dV fs), .it true (.dat (.list ds)) j]⟩ k := by
 intro elts
 induction elts with
 | nil =>
  intro kvs j fs h hl hk
  cases h
  exact ⟨rfl, rfl, hk⟩
 | cons e r ih =>
  intro kvs j fs h hl hk
  cases h with
  | cons hs hv he hv2 hr =>
   rename_i key v kvs
   rw [List.length_cons] at hl
   refine ⟨rfl, rfl, ?_⟩
   show bindT ns766 (forTgt fr766) (.str e) ⟨[("l", .dat (.list ds)), ("parsed", .obj 1)], [.cell (some (.int i)), .dic (dV fs), .it true (.dat (.list ds)) (j + 1)]⟩ _
   rw [keqv_turn, hs]
   refine ⟨rfl, rfl, by rw [sizeLine_eq]; omega, by rw [sizeLine_eq]; show 2 ≤ 16777216; decide, true, [.str key, .str v], rfl, keqv_names.1.symm, ?_⟩
   rw [keqv_names.2]
   show ev (cfKv P) 36 ns766 (.sts ((forBody fr766).drop 1)) ⟨[("l", .dat (.list ds)), ("parsed", .obj 1), ("elt", .str e), ("k", .str key), ("v", .str v)], [.cell (some (.int i)), .dic (dV fs), .it true (.dat (.list ds)) (j + 1)]⟩ _
   rw [keqv_rest]
   have hsz : (dV fs).length ≤ sizeLine := by rw [show (dV fs).length = fs.length from List.length_map _, sizeLine_eq]; omega
   have go : ∀ v', v' = unq v → ∃ st₃, Trim 3 ⟨[("l", .dat (.list ds)), ("parsed", .obj 1), ("elt", .str e), ("k", .str key), ("v", .str v')], [.cell (some (.int i)), .dic (put key (.str v') (dV fs)), .it true (.dat (.list ds)) (j + 1)]⟩ st₃ ∧
     forE (bindT ns766 (forTgt fr766)) (fun st k => ev (cfKv P) 37 ns766 (.sts (forBody fr766)) st k) (.dat (.list ds)) (ds.map svOf) (.it true (.dat (.list ds))) 2 (j + 1) (r.map .str) st₃ k := by
    rintro v' rfl
    rw [put_dV]
    refine ⟨⟨[("l", .dat (.list ds)), ("parsed", .obj 1)], [.cell (some (.int i)), .dic (dV (put key (unq v) fs)), .it true (.dat (.list ds)) (j + 1)]⟩, ?_, ?_⟩
    ·exact trim_pre (n := 3) (loc := [("l", .dat (.list ds)), ("parsed", .obj 1)]) (more := [("elt", .str e), ("k", .str key), ("v", .str (unq v))]) ⟨trivial, (by show 1 < 3; decide), trivial⟩ (.cons (.cell (.same trivial)) (.cons (.dic (fldT_dV 3 _ _)) (.cons (.it (.same trivial)) .nil)))
    ·refine ih kvs (j + 1) (put key (unq v) fs) hr ?_ hk
     have := put_len key (unq v) fs
     omega
   have hu1 : Fast.sEq (Txt.item v 0) "\"" = false → v = unq v := fun q => by unfold unq; rw [q]
   have hu2 : Fast.sEq (Txt.item v 0) "\"" = true → Fast.sEq (Txt.item v (-1)) "\"" = false → v = unq v := fun q q2 => by unfold unq; rw [q, q2]
   have hu3 : Fast.sEq (Txt.item v 0) "\"" = true → Fast.sEq (Txt.item v (-1)) "\"" = true → Txt.slice v (some 1) (some (-1)) = unq v := fun q q2 => by unfold unq; rw [q, q2]
   refine ⟨by omega, by omega, ifT_of (fun q => ⟨by omega, by omega, ifT_of (fun q2 => ⟨hsz, ?_⟩) fun q2 => ⟨hsz, ?_⟩⟩) fun q => ⟨hsz, ?_⟩⟩
   ·exact go _ (hu3 q q2)
   ·exact go _ (hu2 q q2)
   ·exact go _ (hu1 q)
noncomputable def keqvF (svs : List SV) (st : St) (k : Kt) : Prop := match svs with
 | [.dat d] => match d with
  | .list ds => match st.led with
   | [.cell (some (.int i))] => ∃ elts kvs, ds = elts.map .str ∧ KvOk elts kvs ∧ elts.length ≤ 1000001 ∧ k (.v (.obj 1)) { st with led := [.cell (some (.int i)), .dic (dV (dput kvs [])), .gone] }
   | _ => False
  | _ => False
 | _ => False
noncomputable def keqvSp : SpE := ⟨766, 1, 60, keqvF⟩
theorem keqvF_cases {svs : List SV} {st : St} {k : Kt} (h : keqvF svs st k) : ∃ elts kvs i, svs = [.dat (.list (elts.map .str))] ∧ st.led = [.cell (some (.int i))] ∧ KvOk elts kvs ∧ elts.length ≤ 1000001 ∧ k (.v (.obj 1)) { st with led := [.cell (some (.int i)), .dic (dV (dput kvs [])), .gone] } := by
 unfold keqvF at h
 split at h
 ·split at h
  ·split at h
   ·rename_i hl
    obtain ⟨elts, kvs, rfl, a, b, c⟩ := h
    exact ⟨elts, kvs, _, rfl, hl, a, b, c⟩
   ·exact h.elim
  ·exact h.elim
 ·exact h.elim
theorem keqv_ok {w : World} {C : Cf} (hK : C.K = KK w.params) (hC : C.known = true) : SpOk w C keqvSp := by
 refine ⟨by rw [hK]; kernel_rfl, ?_⟩
 intro F A ads st s svs vs k Q Rr ok hA hh hd hu h R D hl' T hR
 replace hA : true = true → A.frames = some F.stk := fun _ => hA hC
 obtain ⟨elts, kvs, i, rfl, hled, hkv, hlen, hk⟩ := keqvF_cases h
 have okY : FmOk (cfKv w.params) F := fm_same hK.symm ok (by first | exact fun _ => rfl | exact fun _ => by assumption | exact fun h => h)
 have d40 : keqvSp.d = 60 := rfl
 rw [d40] at hd hu
 refine call_code (e := f766) (n := 40) (sound (cokKv w) 40) (cokKv w) okY hA hh (by omega) (by omega) (by omega) R D (by kernel_rfl) ?_ T hR
 rw [hled]
 show ev (cfKv w.params) 40 ns766 (.sts (fBody s766)) { loc := [("l", .dat (.list (elts.map .str)))], led := [.cell (some (.int i))] } _
 rw [keqv_head]
 rw [svOf_strs]
 have := keqv_loop w.params (elts.map .str) i (thenT (fun st k => ev (cfKv w.params) 38 ns766 (.sts ((fBody s766).drop 2)) st k) (backT st k)) elts kvs 0 [] hkv (by simpa using hlen) (by
  rw [thenT_next, keqv_ret]
  exact hk)
 rw [svOf_strs] at this
 exact this
noncomputable def joinL (sep : List Nat) : List (List Nat) → List Nat
 | [] => []
 | [x] => x
 | x :: y :: r => x ++ (sep ++ joinL sep (y :: r))
theorem txjoin (sep : Str) (ts : List Str) : Txt.join sep ts = Str.join sep ts := StrLaws.glued_eq_join sep ts
theorem join_tx (sep : List Nat) : ∀ l : List (List Nat), Str.join (tx sep) (l.map tx) = tx (joinL sep l)
 | [] => rfl
 | [x] => rfl
 | x :: y :: r => by
  have ih := join_tx sep (y :: r)
  show tx x ++ tx sep ++ Str.join (tx sep) ((y :: r).map tx) = _
  rw [ih, tx_append, tx_append]
  show tx _ = tx (x ++ (sep ++ joinL sep (y :: r)))
  simp
theorem joinL_nil : ∀ l : List (List Nat), joinL [] l = l.flatten
 | [] => rfl
 | [x] => by simp [joinL]
 | x :: y :: r => by
  show x ++ ([] ++ joinL [] (y :: r)) = _
  rw [joinL_nil (y :: r)]; simp
theorem joinL_len (sep : List Nat) : ∀ l : List (List Nat), (joinL sep l).length ≤ (l.map List.length).sum + l.length * sep.length
 | [] => Nat.zero_le _
 | [x] => by simp [joinL]
 | x :: y :: r => by
  have ih := joinL_len sep (y :: r)
  show (x ++ (sep ++ joinL sep (y :: r))).length ≤ _
  simp only [List.length_append, List.map_cons, List.sum_cons, List.length_cons] at ih ⊢
  rw [Nat.add_mul] at ih ⊢
  rw [Nat.add_mul]
  lia
theorem joinOk_of {sep : Str} {ts : List Str} (h : (ts.map (·.length)).sum + ts.length * sep.length ≤ 16777216) : JoinOk sep ts = true := by
 have key : ∀ (l : List Str) (n : Nat), l.foldl (fun (acc : Nat) (x : Str) => acc + x.length + sep.length) n = n + ((l.map (·.length)).sum + l.length * sep.length) := by
  intro l
  induction l with
  | nil => intro n; simp
  | cons x r ih =>
   intro n
   rw [List.foldl_cons, ih, List.map_cons, List.sum_cons, List.length_cons, Nat.add_mul]
   lia
 unfold JoinOk
 rw [List.foldl_toArray' (h := rfl), key]
 unfold Builtin.Str.tooLong sizeLine
 simp
 lia
theorem lens_tx (l : List (List Nat)) : ((l.map tx).map (·.length)).sum = (l.map List.length).sum := by
 rw [List.map_map]
 exact congrArg List.sum (List.map_congr_left fun x _ => tx_len x)
theorem good_sign {c : Nat} (h : bad c = false) : ws c = false ∧ c ≠ 39 ∧ c ≠ 34 ∧ c ≠ 92 := by
 have e : ∀ d : Nat, bad d = true → c ≠ d := fun d hd q => by
  rw [q, hd] at h; cases h
 have n1 := e 32 (by decide +kernel)
 have n2 := e 9 (by decide +kernel)
 have n3 := e 13 (by decide +kernel)
 have n4 := e 10 (by decide +kernel)
 refine ⟨?_, e 39 (by decide +kernel), e 34 (by decide +kernel), e 92 (by decide +kernel)⟩
 unfold Mine.ws
 simp [n1, n2, n3, n4]
theorem go_safe (tail : List Nat) (q : Bool) (e : Str) (i : Int) : ∀ (x t : List Nat), (∀ c ∈ x, bad c = false) → go (x ++ tail) .a q t e i = go tail .a q (t ++ x) e i
 | [], t, _ => by rw [List.nil_append, List.append_nil]
 | c :: r, t, h => by
  obtain ⟨h1, h2, h3, h4⟩ := good_sign (h c (.head _))
  rw [List.cons_append]
  conv => lhs; unfold go
  rw [if_neg (by rw [h1]; decide), if_neg h2, if_neg h3, if_neg h4]
  rw [go_safe tail q e i r (t ++ [c]) fun d hd => h d (.tail _ hd)]
  rw [List.append_assoc]; rfl
theorem go_marks (tail : List Nat) (e : Str) : ∀ (x t : List Nat) (q : Bool) (i : Int), ∃ j, go (repL 39 qm x ++ 39 :: tail) .sq q t e i = go tail .a true (t ++ x) e j
 | [], t, q, i => by
  refine ⟨i, ?_⟩
  show go (39 :: tail) .sq q t e i = _
  conv => lhs; unfold go
  rw [if_pos rfl, List.append_nil]
 | c :: r, t, q, i => by
  by_cases hc : c = 39
  ·subst hc
   have e1 : repL 39 qm (39 :: r) ++ 39 :: tail = 39 :: 34 :: 39 :: 34 :: 39 :: (repL 39 qm r ++ 39 :: tail) := by
    show ((if (39 : Nat) = 39 then qm else [39]) ++ repL 39 qm r) ++ _ = _
    rw [if_pos rfl]; rfl
   rw [e1]
   obtain ⟨j, hj⟩ := go_marks tail e r (t ++ [39]) true (i + nl 39)
   refine ⟨j, ?_⟩
   have s1 : go (39 :: 34 :: 39 :: 34 :: 39 :: (repL 39 qm r ++ 39 :: tail)) .sq q t e i = go (repL 39 qm r ++ 39 :: tail) .sq true (t ++ [39]) e (i + nl 39) := by
    simp [go, Mine.ws]
   rw [s1, hj, List.append_assoc]; rfl
  ·have e1 : repL 39 qm (c :: r) ++ 39 :: tail = c :: (repL 39 qm r ++ 39 :: tail) := by
    show ((if c = 39 then qm else [c]) ++ repL 39 qm r) ++ _ = _
    rw [if_neg hc]; rfl
   rw [e1]
   obtain ⟨j, hj⟩ := go_marks tail e r (t ++ [c]) true (i + nl c)
   refine ⟨j, ?_⟩
   have s1 : go (c :: (repL 39 qm r ++ 39 :: tail)) .sq q t e i = go (repL 39 qm r ++ 39 :: tail) .sq true (t ++ [c]) e (i + nl c) := by
    conv => lhs; unfold go
    rw [if_neg hc]
   rw [s1, hj, List.append_assoc]; rfl
theorem go_word (tail : List Nat) (e : Str) (x : List Nat) (i : Int) : ∃ j q, (q = true ∨ x ≠ []) ∧ go (wordS x ++ tail) .sp false [] e i = go tail .a q x e j := by
 unfold wordS
 split
 ·rename_i h
  obtain ⟨hne, hall⟩ := h
  cases x with
  | nil => exact absurd rfl hne
  | cons c r =>
   have hg : ∀ d ∈ c :: r, bad d = false := fun d hd => by simpa using List.all_eq_true.mp hall d hd
   obtain ⟨h1, h2, h3, h4⟩ := good_sign (hg c (.head _))
   refine ⟨i, false, .inr hne, ?_⟩
   rw [List.cons_append]
   conv => lhs; unfold go
   rw [if_neg (by rw [h1]; decide), if_neg h2, if_neg h3, if_neg h4]
   exact go_safe tail false e i r [c] fun d hd => hg d (.tail _ hd)
 ·obtain ⟨j, hj⟩ := go_marks tail e x [] false i
  refine ⟨j, true, .inl rfl, ?_⟩
  have e1 : (39 :: (repL 39 qm x ++ [39])) ++ tail = 39 :: (repL 39 qm x ++ 39 :: tail) := by simp
  rw [e1]
  have s1 : go (39 :: (repL 39 qm x ++ 39 :: tail)) .sp false [] e i = go (repL 39 qm x ++ 39 :: tail) .sq false [] e i := by
   conv => lhs; unfold go
   rw [if_neg (by decide), if_pos rfl]
  rw [s1, hj, List.nil_append]
noncomputable def lineS : List (List Nat) → List Nat
 | [] => []
 | [x] => wordS x
 | x :: y :: r => wordS x ++ 32 :: lineS (y :: r)
theorem tx_ne {t : List Nat} (h : t ≠ []) : Fast.sEq (tx t) "" = false := by
 cases q : Fast.sEq (tx t) "" with
 | false => rfl
 | true =>
  have := congrArg Str.length (sEq_true q)
  rw [tx_len] at this
  exact absurd (List.eq_nil_of_length_eq_zero this) h
theorem lex_end (pre : List Nat) (i : Int) (h : pre.length ≤ sizeLine) : LexAll (tx pre) .none i pre.length [] := by
 refine .stop (x := ⟨.none, false, tx [], " ", i, pre.length⟩) trivial trivial ?_ rfl (by rfl)
 exact LexC.off h
theorem lex_line : ∀ (ws : List (List Nat)) (pre : List Nat) (i : Int), ws ≠ [] → (pre ++ lineS ws).length ≤ sizeLine → LexAll (tx (pre ++ lineS ws)) (.str " ") i pre.length (ws.map tx)
 | [], _, _, h, _ => absurd rfl h
 | [x], pre, i, _, hl => by
  obtain ⟨j, q, hq, hg⟩ := go_word [] " " x i
  rw [List.append_nil] at hg
  have hg' : go (wordS x) .sp false [] " " i = some ⟨none, q, x, " ", j, []⟩ := by
   rw [hg]; rfl
  have c := LexC.run (pre := pre) hg' hl
  refine .tok (x := ⟨.none, q, tx x, " ", j, ((pre ++ wordS x).length - 0 : Nat)⟩) trivial trivial c ?_ ?_
  ·rcases hq with h | h
   ·exact .inl h
   ·exact .inr (tx_ne h)
  ·exact lex_end (pre ++ wordS x) j hl
 | x :: y :: r, pre, i, _, hl => by
  obtain ⟨j, q, hq, hg⟩ := go_word (32 :: lineS (y :: r)) " " x i
  have hg' : go (wordS x ++ 32 :: lineS (y :: r)) .sp false [] " " i = some ⟨some .sp, q, x, " ", j + nl 32, lineS (y :: r)⟩ := by
   rw [hg]
   show (if ws 32 = true then (if x ≠ [] ∨ q = true then some (⟨some .sp, q, x, " ", j + nl 32, lineS (y :: r)⟩ : LR) else _) else _) = _
   rw [if_pos (by rfl), if_pos hq.symm]
  have hl' : (pre ++ (wordS x ++ 32 :: lineS (y :: r))).length ≤ sizeLine := hl
  have c := LexC.run (pre := pre) hg' hl'
  have e1 : pre ++ (wordS x ++ 32 :: lineS (y :: r)) = (pre ++ wordS x ++ [32]) ++ lineS (y :: r) := by simp
  have e2 : ((pre ++ (wordS x ++ 32 :: lineS (y :: r))).length - (lineS (y :: r)).length : Nat) = (pre ++ wordS x ++ [32]).length := by
   rw [e1, List.length_append]; lia
  have ih := lex_line (y :: r) (pre ++ wordS x ++ [32]) (j + nl 32) (fun h => nomatch h) (by rw [← e1]; exact hl')
  rw [← e1] at ih
  refine .tok (x := ⟨.str " ", q, tx x, " ", j + nl 32, ((pre ++ (wordS x ++ 32 :: lineS (y :: r))).length - (lineS (y :: r)).length : Nat)⟩) trivial trivial c ?_ ?_
  ·rcases hq with h | h
   ·exact .inl h
   ·exact .inr (tx_ne h)
  ·dsimp only
   rw [e2]
   exact ih
theorem join_lineS : ∀ ws : List (List Nat), Str.join " " (ws.map fun x => tx (wordS x)) = tx (lineS ws)
 | [] => rfl
 | [x] => rfl
 | x :: y :: r => by
  have ih := join_lineS (y :: r)
  show tx (wordS x) ++ " " ++ Str.join " " ((y :: r).map fun x => tx (wordS x)) = _
  rw [ih]
  have e : (" " : Str) = tx [32] := by rfl
  rw [e, tx_append, tx_append]
  show tx _ = tx (wordS x ++ 32 :: lineS (y :: r))
  simp
noncomputable def s790 : Stmt := stAt 34 B01
noncomputable def f790 : FnE := ⟨790, 1, ["text"], [], fBody s790, fScope s790, "_law_marked", .ref 789, []⟩
theorem fok790 (P : Params) : FnOk (KK P) f790 := FnOk.of (by kernel_rfl) (by kernel_rfl) ⟨_, _, _, _, (by kernel_rfl : (KK P).lookup 790 = some (o790 P)), rfl, rfl, fun _ _ => rfl, rfl, rfl, fun s vs X h => by
 obtain ⟨a, rfl⟩ := len1 h
 exact BindsTo.of_eq (by kernel_rfl)⟩
noncomputable def binL : Expr → Expr
 | .BinOp l _ _ _ => l
 | _ => default
noncomputable def binR : Expr → Expr
 | .BinOp _ _ r _ => r
 | _ => default
noncomputable def arg0 : Expr → Expr
 | .Call _ (a :: _) _ _ => a
 | _ => default
noncomputable def lcIf : Expr → Expr
 | .ListComp _ [⟨_, _, [c], _⟩] _ _ => c
 | _ => default
noncomputable def lc790 : Expr := arg0 (binR (binL (rVal (stAt 0 (fBody s790)))))
noncomputable def cn790 : List (Str × NameKind) := relab (lcSc lc790).names
theorem marked_ev (P : Params) (b : Str) (k : Kt) : ev (cfH P) 40 (fScope s790).names (.sts (fBody s790)) { loc := [("text", .str b)], led := [] } k =
   compE (bindT cn790 (lcTgt lc790)) none (fun st k => ev (cfH P) 31 cn790 (.ex (lcElt lc790)) st k) (.str b) (b.cps.toList.map fun c => .str (sgS c)) (.it true (.str b)) 0 1 0 (b.cps.toList.map fun c => .str (sgS c)) ⟨[], [.it true (.str b) 0, .list []]⟩
    (fun stE => CompFin [("text", .str b)] 0 1 stE fun v st₁ => listDat st₁ v fun ds => ∃ ts : List Str, ds = ts.map .str ∧ JoinOk "" ts = true ∧ (Txt.join "" ts).length ≤ sizeLine ∧
      (("\"" : Str).length + (Txt.join "" ts).length ≤ sizeLine ∧ (("\"" ++ Txt.join "" ts).length + ("\"" : Str).length ≤ sizeLine ∧ k (.ret (.str ("\"" ++ Txt.join "" ts ++ "\""))) st₁))) := by
  kernel_rfl
theorem marked_elt (P : Params) (x : Str) (l : List SO) (k : Kt) (D : St → Prop) : bindT cn790 (lcTgt lc790) (.str x) ⟨[], l⟩ (fun st₁ => testE none st₁ fun c st₂ => ifT c (ev (cfH P) 31 cn790 (.ex (lcElt lc790)) st₂ k) (D st₂)) =
   ifT (inB x "\"\\") (("\\" : Str).length + x.length ≤ sizeLine ∧ k (.v (.str ("\\" ++ x))) ⟨[("sign", .str x)], l⟩) (k (.v (.str x)) ⟨[("sign", .str x)], l⟩) := by
  kernel_rfl
noncomputable def escS (l : List Nat) : List Nat := l.flatMap fun c => if c = 34 ∨ c = 92 then [92, c] else [c]
noncomputable def markS (l : List Nat) : List Nat := 34 :: (escS l ++ [34])
theorem escS_len : ∀ l : List Nat, (escS l).length ≤ 2 * l.length
 | [] => Nat.le_refl _
 | c :: r => by
  have ih := escS_len r
  show ((if c = 34 ∨ c = 92 then [92, c] else [c]) ++ escS r).length ≤ 2 * (r.length + 1)
  rw [List.length_append]
  have : (if c = 34 ∨ c = 92 then [92, c] else [c]).length ≤ 2 := by
   split
   ·exact Nat.le_refl 2
   ·exact Nat.le_succ 1
  lia
theorem filterMap_signs {α : Type} (l : List Nat) (f : Nat → α) : (List.range l.length).filterMap (fun i => (l[i]?).map f) = l.map f := by
 induction l with
 | nil => rfl
 | cons c r ih =>
  rw [List.length_cons, List.range_succ_eq_map, List.filterMap_cons, List.filterMap_map]
  simp only [List.getElem?_cons_zero, Option.map_some, List.map_cons]
  congr 1
noncomputable def markedF (svs : List SV) (st : St) (k : Kt) : Prop := match svs with
 | [.str b] => b.length ≤ 1000000 ∧ k (.v (.str (tx (markS b.cps.toList)))) st
 | _ => False
noncomputable def markedSp : SpE := ⟨790, 1, 60, markedF⟩
theorem markedF_cases {svs : List SV} {st : St} {k : Kt} (h : markedF svs st k) : ∃ b, svs = [.str b] ∧ b.length ≤ 1000000 ∧ k (.v (.str (tx (markS b.cps.toList)))) st := by
 unfold markedF at h
 split at h
 ·exact ⟨_, rfl, h⟩
 ·exact h.elim
noncomputable def escC (c : Nat) : List Nat := if c = 34 ∨ c = 92 then [92, c] else [c]
theorem signs_get (l : List Nat) (i : Nat) (x : SV) (h : (l.map fun c => SV.str (sgS c))[i]? = some x) : ∃ c, l[i]? = some c ∧ x = .str (sgS c) := by
 rw [List.getElem?_map, Option.map_eq_some_iff] at h
 obtain ⟨c, h1, h2⟩ := h
 exact ⟨c, h1, h2.symm⟩
theorem marked_ok {w : World} {C : Cf} (hK : C.K = KK w.params) (hC : C.known = true) : SpOk w C markedSp := by
 refine ⟨by rw [hK]; kernel_rfl, ?_⟩
 intro F A ads st s svs vs k Q Rr ok hA hh hd hu h R D hl' T hR
 replace hA : true = true → A.frames = some F.stk := fun _ => hA hC
 obtain ⟨b, rfl, hlen, hk⟩ := markedF_cases h
 have okY : FmOk (cfH w.params) F := fm_same hK.symm ok (by first | exact fun _ => rfl | exact fun _ => by assumption | exact fun h => h)
 have d40 : markedSp.d = 60 := rfl
 rw [d40] at hd hu
 refine call_sub (e := f790) (n := 40) (led₁ := []) (led₂ := st.led) (sound (cokH w) 40) (fok790 _) okY hA hh (by lia) (by lia) R D hl' rfl trivial (fun x hx => by rw [List.mem_singleton.mp hx]; exact trivial) List.nodup_nil ?_ T hR
 show ev (cfH w.params) 40 (fScope s790).names (.sts (fBody s790)) { loc := [("text", .str b)], led := [] } _
 rw [marked_ev]
 have hb : b.length = b.cps.toList.length := by simp [Str.length]
 generalize hL : b.cps.toList = l at *
 refine comp_gen (pre := []) (fl := []) (slot := .it true (.str b)) [("text", .str b)] _ (fun i => (l[i]?).map fun c => PyData.str (tx (escC c))) (fun _ _ _ => .nil) trivial ⟨trivial, trivial⟩ (fun _ _ _ _ => .it (.same trivial)) (fun a c => ?_) (by rw [List.length_map, sizeLine_eq]; lia) (fun i x zs K Dd hx hK' hD => ?_) ?_
 ·show some (b.cps.toList.map (fun c => SV.str (sgS c)), SO.it true (.str b)) = _
  rw [hL]
 ·obtain ⟨c, hc, rfl⟩ := signs_get l i x hx
  show bindT cn790 (lcTgt lc790) (.str (sgS c)) ⟨[], [.it true (.str b) (i + 1), .list zs]⟩ _
  rw [marked_elt]
  have e : inB (sgS c) "\"\\" = decide (c ∈ [34, 92]) := inB_one c "\"\\"
  rw [e]
  have hs := hK' (PyData.str (tx (escC c))) (by rw [hc]; rfl) [("sign", .str (sgS c))] []
  refine ifT_of (fun q => ⟨?_, ?_⟩) fun q => ?_
  ·rw [sgS_len, sizeLine_eq]; decide
  ·have q' : c = 34 ∨ c = 92 := by simpa using of_decide_eq_true q
   have e2 : ("\\" : Str) ++ sgS c = tx (escC c) := by
    unfold escC; rw [if_pos q', lit_bs, ← tx_one, ← tx_one, tx_append]; rfl
   rw [e2]; exact hs
  ·have q' : ¬ (c = 34 ∨ c = 92) := by simpa using of_decide_eq_false q
   have e2 : sgS c = tx (escC c) := by
    unfold escC; rw [if_neg q', tx_one]
   have hs2 : K (.v (.str (tx (escC c)))) ⟨[("sign", .str (sgS c))], [.it true (.str b) (i + 1), .list zs]⟩ := hs
   rw [← e2] at hs2
   exact hs2
 ·rw [List.length_map, filterMap_signs]
  have e3 : l.map (fun c => PyData.str (tx (escC c))) = (l.map fun c => tx (escC c)).map .str := by rw [List.map_map]; rfl
  have e4 : l.map (fun c => tx (escC c)) = (l.map escC).map tx := by rw [List.map_map]; rfl
  have ej : Txt.join "" ((l.map escC).map tx) = tx (escS l) := by
   rw [txjoin]
   have : ("" : Str) = tx [] := by rfl
   rw [this, join_tx, joinL_nil]
   show tx (l.map escC).flatten = tx (l.flatMap escC)
   rw [List.flatMap_def]
  have hel := escS_len l
  have elen : (tx (escS l)).length = (escS l).length := tx_len _
  have q1 : ("\"" : Str).length = 1 := by rfl
  show listDat _ (.dat (.list (l.map fun c => PyData.str (tx (escC c))))) _
  rw [e3, e4]
  refine ⟨(l.map escC).map tx, rfl, joinOk_of ?_, ?_, ?_, ?_, ?_⟩
  ·rw [lens_tx]
   have : ("" : Str).length = 0 := by rfl
   rw [this, Nat.mul_zero, Nat.add_zero]
   have : ((l.map escC).map List.length).sum = (escS l).length := by
    show _ = (l.flatMap escC).length
    rw [List.length_flatMap, List.map_map]; rfl
   rw [this]; lia
  ·rw [ej, elen, sizeLine_eq]; lia
  ·rw [ej, elen, q1, sizeLine_eq]; lia
  ·rw [ej, q1]
   have : ("\"" : Str) = tx [34] := by rfl
   rw [this, tx_append, tx_len, sizeLine_eq]
   simp; lia
  ·rw [ej]
   have : ("\"" : Str) = tx [34] := by rfl
   rw [this, tx_append, tx_append]
   have e5 : [34] ++ escS l ++ [34] = markS l := by simp [markS]
   rw [e5]
   exact ⟨_, _, [], .inl rfl, .same trivial, .nil, hk⟩
noncomputable def s800 : Stmt := stAt 36 B01
noncomputable def f800 : FnE := ⟨800, 1, ["word"], [], fBody s800, fScope s800, "_law_word", .ref 799, ["safe"]⟩
theorem fok800 (P : Params) : FnOk (KK P) f800 := FnOk.of (by kernel_rfl) (by kernel_rfl) ⟨_, _, _, _, (by kernel_rfl : (KK P).lookup 800 = some (o800 P)), rfl, rfl, fun _ _ => rfl, rfl, rfl, fun s vs X h => by
 obtain ⟨a, rfl⟩ := len1 h
 exact BindsTo.of_eq (by kernel_rfl)⟩
noncomputable def ns800 : List (Str × NameKind) := (fScope s800).names
noncomputable def safeS : Str := match aVal (stAt 0 (fBody s800)) with
 | .Constant (.str s) _ _ => s
 | _ => ""
noncomputable def if800 : Stmt := stAt 1 (fBody s800)
noncomputable def boolAt : Nat → Expr → Expr
 | n, .BoolOp _ vs _ => (vs[n]?).getD default
 | _, _ => default
noncomputable def lcA : Expr := cmpL (boolAt 1 (ifTest if800))
noncomputable def cnA : List (Str × NameKind) := relab (lcSc lcA).names
noncomputable def lcB : Expr := arg0 (binR (binL (rVal (stAt 2 (fBody s800)))))
noncomputable def cnB : List (Str × NameKind) := relab (lcSc lcB).names
noncomputable def ifK (a b : St → Kt → Prop) (k : Kt) : Kt := fun r st => match r with
 | .b c => ifT c (a st k) (b st k)
 | _ => False
noncomputable abbrev wst (b : Str) : List (Str × SV) := [("safe", .obj 0), ("word", .str b)]
theorem word_head (P : Params) (b : Str) (k : Kt) : ev (cfH P) 60 ns800 (.sts (fBody s800)) ⟨wst b, [.cell none]⟩ k =
   ev (cfH P) 57 ns800 (.tr (ifTest if800)) ⟨wst b, [.cell (some (.str safeS))]⟩ (ifK (fun st k => ev (cfH P) 57 ns800 (.sts (ifBody if800)) st k) (fun st k => ev (cfH P) 57 ns800 (.sts []) st k) (thenT (fun st k => ev (cfH P) 58 ns800 (.sts ((fBody s800).drop 2)) st k) k)) := by
  kernel_rfl
theorem word_ret1 (P : Params) (b : Str) (l : List SO) (k : Kt) : ev (cfH P) 57 ns800 (.sts (ifBody if800)) ⟨wst b, l⟩ k = k (.ret (.str b)) ⟨wst b, l⟩ := by kernel_rfl
theorem word_nil (P : Params) (st : St) (k : Kt) : ev (cfH P) 57 ns800 (.sts []) st k = k .next st := by kernel_rfl
theorem word_test (P : Params) (b : Str) (K : Kt) : ev (cfH P) 57 ns800 (.tr (ifTest if800)) ⟨wst b, [.cell (some (.str safeS))]⟩ K =
   ifT (!Fast.sEq b "") (compE (bindT cnA (lcTgt lcA)) (some fun st k => ev (cfH P) 52 cnA (.tr (lcIf lcA)) st k) (fun st k => ev (cfH P) 52 cnA (.ex (lcElt lcA)) st k) (.str b) (b.cps.toList.map fun c => .str (sgS c)) (.it true (.str b)) 1 2 0 (b.cps.toList.map fun c => .str (sgS c))
      ⟨[("safe", .obj 0)], [.cell (some (.str safeS)), .it true (.str b) 0, .list []]⟩
      (fun stE => CompFin (wst b) 1 2 stE fun v st₁ => cmpA 54 ⟨st₁.loc, st₁.led ++ [.list []]⟩ .Eq v (.obj st₁.led.length) fun z => ifT z (K (.b true) ⟨st₁.loc, st₁.led ++ [.list []]⟩) (K (.b false) ⟨st₁.loc, st₁.led ++ [.list []]⟩)))
    (K (.b false) ⟨wst b, [.cell (some (.str safeS))]⟩) := by
  kernel_rfl
theorem wordA_elt (P : Params) (x : Str) (a b : SO) (K : Kt) (D : St → Prop) : bindT cnA (lcTgt lcA) (.str x) ⟨[("safe", .obj 0)], [.cell (some (.str safeS)), a, b]⟩ (fun st₁ => testE (some fun st k => ev (cfH P) 52 cnA (.tr (lcIf lcA)) st k) st₁ fun c st₂ => ifT c (ev (cfH P) 52 cnA (.ex (lcElt lcA)) st₂ K) (D st₂)) =
   ifT (!inB x safeS) (K (.v (.str x)) ⟨[("safe", .obj 0), ("sign", .str x)], [.cell (some (.str safeS)), a, b]⟩) (D ⟨[("safe", .obj 0), ("sign", .str x)], [.cell (some (.str safeS)), a, b]⟩) := by
  kernel_rfl
theorem word_ret2 (P : Params) (b : Str) (l : List SO) (k : Kt) : ev (cfH P) 58 ns800 (.sts ((fBody s800).drop 2)) ⟨wst b, l⟩ k =
   compE (bindT cnB (lcTgt lcB)) none (fun st k => ev (cfH P) 51 cnB (.ex (lcElt lcB)) st k) (.str b) (b.cps.toList.map fun c => .str (sgS c)) (.it true (.str b)) l.length (l.length + 1) 0 (b.cps.toList.map fun c => .str (sgS c)) ⟨[], l ++ [.it true (.str b) 0, .list []]⟩
    (fun stE => CompFin (wst b) l.length (l.length + 1) stE fun v st₁ => listDat st₁ v fun ds => ∃ ts : List Str, ds = ts.map .str ∧ JoinOk "" ts = true ∧ (Txt.join "" ts).length ≤ sizeLine ∧
      (("'" : Str).length + (Txt.join "" ts).length ≤ sizeLine ∧ (("'" ++ Txt.join "" ts).length + ("'" : Str).length ≤ sizeLine ∧ k (.ret (.str ("'" ++ Txt.join "" ts ++ "'"))) st₁))) := by
  kernel_rfl
theorem wordB_elt (P : Params) (x : Str) (l : List SO) (K : Kt) (D : St → Prop) : bindT cnB (lcTgt lcB) (.str x) ⟨[], l⟩ (fun st₁ => testE none st₁ fun c st₂ => ifT c (ev (cfH P) 51 cnB (.ex (lcElt lcB)) st₂ K) (D st₂)) =
   ifT (Fast.sEq x "'") (K (.v (.str "'\"'\"'")) ⟨[("sign", .str x)], l⟩) (K (.v (.str x)) ⟨[("sign", .str x)], l⟩) := by
  kernel_rfl
theorem safe_bad (c : Nat) : inB (sgS c) safeS = !bad c := by
 rw [inB_one]
 by_cases h : c < 128
 ·have key : ∀ n, n < 128 → decide (n ∈ safeS.cps.toList) = !bad n := by
   have : (List.range 128).all (fun n => decide (n ∈ safeS.cps.toList) == !bad n) = true := by decide +kernel
   intro n hn
   have := List.all_eq_true.mp this n (List.mem_range.mpr hn)
   exact eq_of_beq this
  exact key c h
 ·have h1 : c ∉ safeS.cps.toList := by
   have : safeS.cps.toList.all (fun n => decide (n < 128)) = true := by decide +kernel
   intro hc
   exact h (of_decide_eq_true (List.all_eq_true.mp this c hc))
  rw [decide_eq_false h1]
  have hb : bad c = true := by
   unfold bad
   have w1 : Sre.isWord c = false := by
    unfold Sre.isWord Sre.isDigit
    simp
    lia
   rw [w1]
   by_cases h2 : c < 256
   ·have : ∀ n, 128 ≤ n → n < 256 → (chQ.getD (n / 32) 0).testBit (n % 32) = false := by
     have : (List.range 256).all (fun n => decide (n < 128) || !(chQ.getD (n / 32) 0).testBit (n % 32)) = true := by decide +kernel
     intro n h3 h4
     have := List.all_eq_true.mp this n (List.mem_range.mpr h4)
     rw [decide_eq_false (by lia), Bool.false_or] at this
     simpa using this
    rw [this c (by lia) h2]; simp
   ·rw [decide_eq_false h2]; rfl
  rw [hb]; rfl
noncomputable def wordF (svs : List SV) (st : St) (k : Kt) : Prop := match svs with
 | [.str b] => b.length ≤ 1000000 ∧ PyData.strOk b = true ∧ k (.v (.str (wordT b))) st
 | _ => False
noncomputable def wordSp : SpE := ⟨800, 1, 80, wordF⟩
theorem wordF_cases {svs : List SV} {st : St} {k : Kt} (h : wordF svs st k) : ∃ b, svs = [.str b] ∧ b.length ≤ 1000000 ∧ PyData.strOk b = true ∧ k (.v (.str (wordT b))) st := by
 unfold wordF at h
 split at h
 ·exact ⟨_, rfl, h⟩
 ·exact h.elim
theorem filterMap_some {α β : Type} (l : List α) (f : α → Option β) : (List.range l.length).filterMap (fun i => (l[i]?).bind f) = l.filterMap f := by
 induction l with
 | nil => rfl
 | cons c r ih =>
  rw [List.length_cons, List.range_succ_eq_map, List.filterMap_cons, List.filterMap_map]
  have e : List.filterMap ((fun i => ((c :: r)[i]?).bind f) ∘ Nat.succ) (List.range r.length) = r.filterMap f := by
   rw [← ih]; rfl
  rw [e]
  show (match f c with | none => _ | some b => _) = _
  rw [List.filterMap_cons]
  rfl
noncomputable def qC (c : Nat) : List Nat := if c = 39 then qm else [c]
theorem word_marks (P : Params) (b : Str) (hlen : b.length ≤ 1000000) (l : List SO) (hl : ∀ n led, l.length ≤ n → SosT n led l l) (h0 : 0 < l.length) (k : Kt)
  (hk : k (.ret (.str (tx (39 :: (repL 39 qm b.cps.toList ++ [39]))))) ⟨wst b, l⟩) : ev (cfH P) 58 ns800 (.sts ((fBody s800).drop 2)) ⟨wst b, l⟩ k := by
 rw [word_ret2]
 have hb : b.length = b.cps.toList.length := by simp [Str.length]
 refine comp_gen (pre := l) (fl := []) (slot := .it true (.str b)) (wst b) _ (fun i => (b.cps.toList[i]?).map fun c => PyData.str (tx (qC c))) hl trivial ⟨h0, trivial, trivial⟩ (fun _ _ _ _ => .it (.same trivial)) (fun a c => rfl) (by rw [List.length_map, sizeLine_eq]; lia) (fun i x zs K Dd hx hK' hD => ?_) ?_
 ·obtain ⟨c, hc, rfl⟩ := signs_get _ i x hx
  rw [wordB_elt]
  have e : Fast.sEq (sgS c) "'" = decide (c = 39) := sg_eq c 39
  rw [e]
  have hs := hK' (PyData.str (tx (qC c))) (by rw [hc]; rfl) [("sign", .str (sgS c))] []
  have hs2 : K (.v (.str (tx (qC c)))) ⟨[("sign", .str (sgS c))], l ++ [.it true (.str b) (i + 1), .list zs]⟩ := hs
  refine ifT_of (fun q => ?_) fun q => ?_
  ·have e2 : tx (qC c) = "'\"'\"'" := by
    unfold qC; rw [if_pos (of_decide_eq_true q)]; rfl
   rw [e2] at hs2; exact hs2
  ·have e2 : tx (qC c) = sgS c := by
    unfold qC; rw [if_neg (of_decide_eq_false q), tx_one]
   rw [e2] at hs2; exact hs2
 ·rw [List.length_map, filterMap_signs]
  have e3 : b.cps.toList.map (fun c => PyData.str (tx (qC c))) = ((b.cps.toList.map qC).map tx).map .str := by rw [List.map_map, List.map_map]; rfl
  have ej : Txt.join "" ((b.cps.toList.map qC).map tx) = tx (repL 39 qm b.cps.toList) := by
   rw [txjoin]
   have : ("" : Str) = tx [] := by rfl
   rw [this, join_tx, joinL_nil]
   show tx (b.cps.toList.map qC).flatten = tx (b.cps.toList.flatMap qC)
   rw [List.flatMap_def]
  have hel := repL_len 39 qm 5 (by decide) (by decide) b.cps.toList
  have elen : (tx (repL 39 qm b.cps.toList)).length = (repL 39 qm b.cps.toList).length := tx_len _
  have q1 : ("'" : Str).length = 1 := by rfl
  show listDat _ (.dat (.list (b.cps.toList.map fun c => PyData.str (tx (qC c))))) _
  rw [e3]
  refine ⟨(b.cps.toList.map qC).map tx, rfl, joinOk_of ?_, ?_, ?_, ?_, ?_⟩
  ·rw [lens_tx]
   have : ("" : Str).length = 0 := by rfl
   rw [this, Nat.mul_zero, Nat.add_zero]
   have : ((b.cps.toList.map qC).map List.length).sum = (repL 39 qm b.cps.toList).length := by
    show _ = (b.cps.toList.flatMap qC).length
    rw [List.length_flatMap, List.map_map]; rfl
   rw [this]; lia
  ·rw [ej, elen, sizeLine_eq]; lia
  ·rw [ej, elen, q1, sizeLine_eq]; lia
  ·rw [ej, q1]
   have : ("'" : Str) = tx [39] := by rfl
   rw [this, tx_append, tx_len, sizeLine_eq]
   simp; lia
  ·rw [ej]
   have : ("'" : Str) = tx [39] := by rfl
   rw [this, tx_append, tx_append]
   have e5 : [39] ++ repL 39 qm b.cps.toList ++ [39] = 39 :: (repL 39 qm b.cps.toList ++ [39]) := by simp
   rw [e5]
   exact hk
theorem ifK_true (a b : St → Kt → Prop) (k : Kt) (st : St) : ifK a b k (.b true) st = a st k := rfl
theorem ifK_false (a b : St → Kt → Prop) (k : Kt) (st : St) : ifK a b k (.b false) st = b st k := rfl
theorem cmpA_eq (n : Nat) (st : St) (d : PyData) (y : SV) (k : Bool → Prop) : cmpA n st .Eq (.dat d) y k = eqD n st (.dat d) y k := rfl
theorem eqD_of {n : Nat} {st : St} {x y : SV} {d e : PyData} {k : Bool → Prop} (h1 : frzD 4 st.led x = some d) (h2 : frzD 4 st.led y = some e) (hn : 8 ≤ n) (c1 : d.canLay0 = true) (c2 : e.canLay0 = true) (dp : min d.depth e.depth ≤ 60) (hk : k (d.eqv e)) : eqD n st x y k := by
 unfold eqD
 rw [h1, h2]
 exact ⟨hn, c1, c2, dp, hk⟩
theorem eqv_nil (ds : List PyData) : (PyData.list ds).eqv (.list []) = ds.isEmpty := by cases ds <;> rfl
theorem word_ok {w : World} {C : Cf} (hK : C.K = KK w.params) (hC : C.known = true) : SpOk w C wordSp := by
 refine ⟨by rw [hK]; kernel_rfl, ?_⟩
 intro F A ads st s svs vs k Q Rr ok hA hh hd hu h R D hl' T hR
 replace hA : true = true → A.frames = some F.stk := fun _ => hA hC
 obtain ⟨b, rfl, hlen, hbo, hk⟩ := wordF_cases h
 have okY : FmOk (cfH w.params) F := fm_same hK.symm ok (by first | exact fun _ => rfl | exact fun _ => by assumption | exact fun h => h)
 have d40 : wordSp.d = 80 := rfl
 rw [d40] at hd hu
 refine call_sub (e := f800) (n := 60) (led₁ := []) (led₂ := st.led) (sound (cokH w) 60) (fok800 _) okY hA hh (by lia) (by lia) R D hl' rfl trivial (fun x hx => by rw [List.mem_singleton.mp hx]; exact trivial) (by decide) ?_ T hR
 have hb : b.length = b.cps.toList.length := by simp [Str.length]
 have fin : ∀ (x : Str) (st' : St), x = wordT b → ∃ x' y led', (SR.ret (.str x) = .ret x' ∨ (SR.ret (.str x) = .next ∧ x' = .none)) ∧ SvT 0 st'.led x' y ∧ SosT 0 st'.led (st'.led.take 0) led' ∧ k (.v y) { loc := st.loc, led := led' ++ st.led } := by
  rintro x st' rfl
  exact ⟨_, _, [], .inl rfl, .same trivial, .nil, hk⟩
 show ev (cfH w.params) 60 ns800 (.sts (fBody s800)) ⟨wst b, [.cell none]⟩ _
 rw [word_head, word_test]
 have bl : (b.cps.toList = [] ↔ Fast.sEq b "" = true) := by
  constructor
  ·intro h
   have : b = "" := by
    have e := str_tx (s := b) rfl
    rw [e, h]; rfl
   rw [this]; rfl
  ·intro h
   rw [sEq_true h]; rfl
 refine ifT_of (fun q => ?_) fun q => ?_
 ·have hne : b.cps.toList ≠ [] := fun e => by
   rw [bl.mp e] at q; cases q
  refine comp_gen (pre := [.cell (some (.str safeS))]) (fl := [("safe", .obj 0)]) (slot := .it true (.str b)) (wst b) _ (fun i => (b.cps.toList[i]?).bind fun c => if bad c = true then some (PyData.str (sgS c)) else none) (fun _ _ _ => .cons (.cell (.same trivial)) .nil) ⟨Nat.zero_lt_one, trivial⟩ ⟨Nat.zero_lt_one, trivial, trivial⟩ (fun _ _ _ _ => .it (.same trivial)) (fun a c => rfl) (by rw [List.length_map, sizeLine_eq]; lia) (fun i x zs K Dd hx hK' hD => ?_) ?_
  ·obtain ⟨c, hc, rfl⟩ := signs_get _ i x hx
   show bindT cnA (lcTgt lcA) (.str (sgS c)) ⟨[("safe", .obj 0)], [.cell (some (.str safeS)), .it true (.str b) (i + 1), .list zs]⟩ _
   rw [wordA_elt, safe_bad]
   refine ifT_of (fun q2 => ?_) fun q2 => ?_
   ·have hbad : bad c = true := by simpa using q2
    exact hK' (PyData.str (sgS c)) (by rw [hc]; show (if bad c = true then _ else _) = _; rw [if_pos hbad]) [("sign", .str (sgS c))] []
   ·have hbad : bad c = false := by simpa using q2
    exact hD (by rw [hc]; show (if bad c = true then _ else _) = _; rw [if_neg (by rw [hbad]; decide)]) [("sign", .str (sgS c))] []
  ·rw [List.length_map, filterMap_some]
   generalize hds : (b.cps.toList.filterMap fun c => if bad c = true then some (PyData.str (sgS c)) else none) = ds
   have hcs : ∀ c ∈ b.cps.toList, c < 0x110000 := fun c hc => by
    unfold PyData.strOk at hbo
    rw [← Array.all_toList] at hbo
    exact of_decide_eq_true (List.all_eq_true.mp hbo c hc)
   have hlist : ∀ d ∈ ds, ∃ c, d = .str (sgS c) ∧ c < 0x110000 := fun d hd => by
    rw [← hds] at hd
    obtain ⟨c, hcm, hc⟩ := List.mem_filterMap.mp hd
    split at hc
    ·cases hc; exact ⟨c, rfl, hcs c hcm⟩
    ·cases hc
   have cla : ∀ l : List PyData, (∀ d ∈ l, ∃ c, d = .str (sgS c) ∧ c < 0x110000) → PyData.canLayAll0 l = true := fun l => by
    induction l with
    | nil => intro _; rfl
    | cons d r ih =>
     intro h
     obtain ⟨c, rfl, hc⟩ := h d (.head _)
     simp only [PyData.canLayAll0, Bool.and_eq_true]
     exact ⟨by simp [PyData.canLay0, PyData.strOk, sgS, hc], ih fun x hx => h x (.tail _ hx)⟩
   have cl : PyData.canLay0 (.list ds) = true := cla ds hlist
   have dp : min (PyData.depth (.list ds)) (PyData.depth (.list [])) ≤ 60 := by
    refine Nat.le_trans (Nat.min_le_right _ _) ?_
    decide
   rw [cmpA_eq]
   refine eqD_of (d := .list ds) (e := .list []) rfl rfl (by decide) cl (by rfl) dp ?_
   rw [eqv_nil]
   have hgood : ds.isEmpty = true ↔ b.cps.toList.all (fun c => !bad c) = true := by
    rw [← hds, List.isEmpty_iff, List.filterMap_eq_nil_iff, List.all_eq_true]
    constructor
    ·intro h c hc
     have := h c hc
     cases hb2 : bad c with
     | true => rw [hb2] at this; cases this
     | false => rfl
    ·intro h c hc
     have := h c hc
     cases hb2 : bad c with
     | true => rw [hb2] at this; cases this
     | false => rfl
   refine ifT_of (fun q3 => ?_) fun q3 => ?_
   ·rw [ifK_true]
    show ev (cfH w.params) 57 ns800 (.sts (ifBody if800)) ⟨wst b, [.cell (some (.str safeS)), .list []]⟩ _
    rw [word_ret1]
    refine fin b _ ?_
    unfold wordT wordS
    rw [if_pos ⟨hne, hgood.mp q3⟩]
    exact str_tx rfl
   ·rw [ifK_false, word_nil, thenT_next]
    refine word_marks w.params b hlen [.cell (some (.str safeS)), .list []] (fun _ _ _ => .cons (.cell (.same trivial)) (.cons (.list .nil) .nil)) (by show 0 < 2; decide) _ ?_
    refine fin _ _ ?_
    unfold wordT wordS
    rw [if_neg fun h => ?_]
    rw [hgood.mpr h.2] at q3; cases q3
 ·have he : b.cps.toList = [] := bl.mpr (by simpa using q)
  rw [ifK_false, word_nil, thenT_next]
  refine word_marks w.params b hlen [.cell (some (.str safeS))] (fun _ _ _ => .cons (.cell (.same trivial)) .nil) (by show 0 < 1; decide) _ ?_
  refine fin _ _ ?_
  unfold wordT wordS
  rw [if_neg fun h => h.1 he]
noncomputable def s778 : Stmt := stAt 32 B01
noncomputable def f778 : FnE := ⟨778, 1, ["more"], [], fBody s778, fScope s778, "_law_text", .ref 777, []⟩
theorem fok778 (P : Params) : FnOk (KK P) f778 := FnOk.of (by kernel_rfl) (by kernel_rfl) ⟨_, _, _, _, (by kernel_rfl : (KK P).lookup 778 = some (o778 P)), rfl, rfl, fun _ _ => rfl, rfl, rfl, fun s vs X h => by
 obtain ⟨a, rfl⟩ := len1 h
 exact BindsTo.of_eq (by kernel_rfl)⟩
noncomputable def ns778 : List (Str × NameKind) := (fScope s778).names
noncomputable abbrev cfE (P : Params) : Cf where
 K := KK P
 globs := [("range", .type "range")]
 fns := []
 cls := []
theorem text_head (P : Params) (m : Int) (k : Kt) : ev (cfE P) 60 ns778 (.sts (fBody s778)) ⟨[("more", .int m)], []⟩ k =
   ((3 : Int) ≠ 0 ∧ ((3 : Int) ≠ 0 ∧ (3 : Int).natAbs < 1073741824) ∧ ev (cfE P) 57 ns778 (.sts ((fBody s778).drop 3)) ⟨[("more", .int (m.fdiv 3)), ("size", .int (m.fmod 3)), ("text", .str "")], []⟩ k) := by
  kernel_rfl
noncomputable def fr778 : Stmt := stAt 3 (fBody s778)
noncomputable def alpha : Str := "a'\"\\, \n=#Z$é"
theorem text_turn (P : Params) (m t z : Int) (x : Str) (l : List SO) (k : Kt) : bindT ns778 (forTgt fr778) (.int t) ⟨[("more", .int m), ("size", .int z), ("text", .str x)], l⟩ (fun st₁ => ev (cfE P) 54 ns778 (.sts (forBody fr778)) st₁ k) =
   ((12 : Int) ≠ 0 ∧ (-(alpha.length : Int) ≤ m.fmod 12 ∧ m.fmod 12 < alpha.length ∧ (x.length + (Txt.item alpha (m.fmod 12)).length ≤ sizeLine ∧ ((12 : Int) ≠ 0 ∧ (12 : Int).natAbs < 1073741824) ∧
     k .next ⟨[("more", .int (m.fdiv 12)), ("size", .int z), ("text", .str (x ++ Txt.item alpha (m.fmod 12))), ("turn", .int t)], l⟩))) := by
  kernel_rfl
theorem text_for (P : Params) (m z : Int) (k : Kt) : ev (cfE P) 57 ns778 (.sts ((fBody s778).drop 3)) ⟨[("more", .int m), ("size", .int z), ("text", .str "")], []⟩ k =
   (0 ≤ z ∧ z.toNat ≤ sizeLine ∧ forE (bindT ns778 (forTgt fr778)) (fun st k => ev (cfE P) 54 ns778 (.sts (forBody fr778)) st k) (.obj 0) ((List.range z.toNat).map fun (j : Nat) => SV.int (j : Int)) (.itr z.toNat) 1 0 ((List.range z.toNat).map fun (j : Nat) => SV.int (j : Int))
     ⟨[("more", .int m), ("size", .int z), ("text", .str "")], [.rng z.toNat, .itr z.toNat 0]⟩ (thenT (fun st k => ev (cfE P) 56 ns778 (.sts ((fBody s778).drop 4)) st k) k)) := by
  kernel_rfl
theorem text_ret (P : Params) (m z : Int) (x : Str) (l : List SO) (k : Kt) : ev (cfE P) 56 ns778 (.sts ((fBody s778).drop 4)) ⟨[("more", .int m), ("size", .int z), ("text", .str x)], l⟩ k = k (.ret (.str x)) ⟨[("more", .int m), ("size", .int z), ("text", .str x)], l⟩ := by
 kernel_rfl
noncomputable def signAt (i : Int) : Nat := alpha.cps.toList.getD i.toNat 0
noncomputable def txtN : Nat → Int → List Nat
 | 0, _ => []
 | n + 1, m => signAt (m.fmod 12) :: txtN n (m.fdiv 12)
theorem item_alpha (i : Int) (h0 : 0 ≤ i) (h1 : i < 12) : Txt.item alpha i = sgS (signAt i) := by
 have key : ∀ n : Fin 12, Txt.item alpha (n.1 : Int) = sgS (signAt (n.1 : Int)) := by decide +kernel
 have := key ⟨i.toNat, (Int.toNat_lt h0).mpr h1⟩
 rwa [Int.toNat_of_nonneg h0] at this
theorem alpha_len : (alpha.length : Int) = 12 := by rfl
theorem text_loop (P : Params) (z : Int) (all : List SV) (N : Nat) (hall : all = (List.range N).map fun (j : Nat) => SV.int (j : Int)) (k : Kt) : ∀ (rest : List Nat) (j : Nat) (m : Int) (x : List Nat), x.length + rest.length ≤ 1000 →
  (∀ m', k .next ⟨[("more", .int m'), ("size", .int z), ("text", .str (tx (x ++ txtN rest.length m)))], [.rng N, .gone]⟩) →
  forE (bindT ns778 (forTgt fr778)) (fun st k => ev (cfE P) 54 ns778 (.sts (forBody fr778)) st k) (.obj 0) all (.itr N) 1 j (rest.map fun (j : Nat) => SV.int (j : Int))
   ⟨[("more", .int m), ("size", .int z), ("text", .str (tx x))], [.rng N, .itr N j]⟩ k := by
 intro rest
 induction rest with
 | nil =>
  intro j m x h hk
  refine ⟨rfl, by rw [hall]; rfl, ?_⟩
  have := hk m
  rw [List.length_nil] at this
  show k .next ⟨[("more", .int m), ("size", .int z), ("text", .str (tx x))], [.rng N, .gone]⟩
  have e : x ++ txtN 0 m = x := List.append_nil x
  rw [e] at this; exact this
 | cons a r ih =>
  intro j m x h hk
  rw [List.length_cons] at h hk
  refine ⟨rfl, by rw [hall]; rfl, ?_⟩
  show bindT ns778 (forTgt fr778) (.int a) ⟨[("more", .int m), ("size", .int z), ("text", .str (tx x))], [.rng N, .itr N (j + 1)]⟩ _
  rw [text_turn, alpha_len]
  have h0 : 0 ≤ m.fmod 12 := Int.fmod_nonneg_of_pos m (by decide)
  have h1 : m.fmod 12 < 12 := Int.fmod_lt_of_pos m (by decide)
  rw [item_alpha _ h0 h1]
  refine ⟨by decide, by lia, h1, by rw [tx_len, sgS_len, sizeLine_eq]; lia, ⟨by decide, by decide⟩, ⟨[("more", .int (m.fdiv 12)), ("size", .int z), ("text", .str (tx (x ++ [signAt (m.fmod 12)])))], [.rng N, .itr N (j + 1)]⟩, ?_, ?_⟩
  ·rw [← tx_one, tx_append]
   exact trim_pre (n := 2) (loc := [("more", .int (m.fdiv 12)), ("size", .int z), ("text", .str (tx (x ++ [signAt (m.fmod 12)])))]) (more := [("turn", .int a)]) ⟨trivial, trivial, trivial, trivial⟩ (.cons .rng (.cons .itr .nil))
  ·refine ih (j + 1) (m.fdiv 12) (x ++ [signAt (m.fmod 12)]) (by simp; lia) fun m' => ?_
   have e : x ++ [signAt (m.fmod 12)] ++ txtN r.length (m.fdiv 12) = x ++ txtN (r.length + 1) m := by
    rw [List.append_assoc]; rfl
   rw [e]; exact hk m'
theorem cokE (w : World) : CfOk w (cfE w.params) := ⟨mem_nil, mem_nil, globs_of (mem_cons' ⟨by kernel_rfl, .inr ⟨by kernel_rfl, by kernel_rfl, by kernel_rfl⟩⟩ mem_nil), mem_nil, mem_nil, mem_nil⟩
noncomputable def leafN (m : Int) : List Nat := txtN (m.fmod 3).toNat (m.fdiv 3)
noncomputable def textF (svs : List SV) (st : St) (k : Kt) : Prop := match svs with
 | [.int m] => k (.v (.str (tx (leafN m)))) st
 | _ => False
noncomputable def textSp : SpE := ⟨778, 1, 80, textF⟩
theorem textF_cases {svs : List SV} {st : St} {k : Kt} (h : textF svs st k) : ∃ m, svs = [.int m] ∧ k (.v (.str (tx (leafN m)))) st := by
 unfold textF at h
 split at h
 ·exact ⟨_, rfl, h⟩
 ·exact h.elim
theorem text_ok {w : World} {C : Cf} (hK : C.K = KK w.params) (hC : C.known = true) : SpOk w C textSp := by
 refine ⟨by rw [hK]; kernel_rfl, ?_⟩
 intro F A ads st s svs vs k Q Rr ok hA hh hd hu h R D hl' T hR
 replace hA : true = true → A.frames = some F.stk := fun _ => hA hC
 obtain ⟨m, rfl, hk⟩ := textF_cases h
 have okY : FmOk (cfE w.params) F := fm_same hK.symm ok (by first | exact fun _ => rfl | exact fun _ => by assumption | exact fun h => h)
 have d40 : textSp.d = 80 := rfl
 rw [d40] at hd hu
 refine call_sub (e := f778) (n := 60) (led₁ := []) (led₂ := st.led) (sound (cokE w) 60) (fok778 _) okY hA hh (by lia) (by lia) R D hl' rfl trivial (fun x hx => by rw [List.mem_singleton.mp hx]; exact trivial) List.nodup_nil ?_ T hR
 show ev (cfE w.params) 60 ns778 (.sts (fBody s778)) ⟨[("more", .int m)], []⟩ _
 rw [text_head, text_for]
 have h0 : 0 ≤ m.fmod 3 := Int.fmod_nonneg_of_pos m (by decide)
 have h1 : m.fmod 3 < 3 := Int.fmod_lt_of_pos m (by decide)
 refine ⟨by decide, ⟨by decide, by decide⟩, h0, by rw [sizeLine_eq]; lia, ?_⟩
 refine text_loop w.params (m.fmod 3) _ (m.fmod 3).toNat rfl _ (List.range (m.fmod 3).toNat) 0 (m.fdiv 3) [] (by simp; lia) fun m' => ?_
 rw [thenT_next, text_ret, List.length_range]
 exact ⟨_, _, [], .inl rfl, .same trivial, .nil, hk⟩
noncomputable def s785 : Stmt := stAt 33 B01
noncomputable def f785 : FnE := ⟨785, 1, ["script"], [], fBody s785, fScope s785, "_law_tree", .ref 784, []⟩
theorem fok785 (P : Params) : FnOk (KK P) f785 := FnOk.of (by kernel_rfl) (by kernel_rfl) ⟨_, _, _, _, (by kernel_rfl : (KK P).lookup 785 = some (o785 P)), rfl, rfl, fun _ _ => rfl, rfl, rfl, fun s vs X h => by
 obtain ⟨a, rfl⟩ := len1 h
 exact BindsTo.of_eq (by kernel_rfl)⟩
noncomputable def ns785 : List (Str × NameKind) := (fScope s785).names
noncomputable def fr785 : Stmt := stAt 2 (fBody s785)
noncomputable def frIter : Stmt → Expr
 | .For _ b _ _ _ => b
 | _ => default
noncomputable def frPos : Stmt → Pos
 | .For _ _ _ _ p => p
 | _ => default
noncomputable abbrev cfTi (P : Params) : Cf where
 K := KK P
 globs := [("len", .builtin "len"), ("_law_text", .ref 778)]
 fns := []
 cls := []
 sps := [textSp]
theorem cokTi (w : World) : CfOk w (cfTi w.params) := ⟨mem_nil, mem_nil, globs_of (mem_cons' ⟨by kernel_rfl, .inr ⟨by kernel_rfl, by kernel_rfl, by kernel_rfl⟩⟩ <| mem_cons' ⟨by kernel_rfl, .inl (by kernel_rfl)⟩ mem_nil), mem_cons' (text_ok rfl rfl) mem_nil, mem_nil, mem_nil⟩
noncomputable def frHk785 (P : Params) : HkE Stmt := forHk (cfTi P) 100 ns785 (forTgt fr785) (frIter fr785) (forBody fr785) (frPos fr785)
noncomputable abbrev cfTr (P : Params) : Cf where
 K := KK P
 globs := [("len", .builtin "len"), ("_law_text", .ref 778)]
 fns := []
 cls := []
 hss := [frHk785 P]
theorem cokTr (w : World) : CfOk w (cfTr w.params) := ⟨mem_nil, mem_nil, globs_of (mem_cons' ⟨by kernel_rfl, .inr ⟨by kernel_rfl, by kernel_rfl, by kernel_rfl⟩⟩ <| mem_cons' ⟨by kernel_rfl, .inl (by kernel_rfl)⟩ mem_nil), mem_nil, mem_nil, mem_cons' (forHk_ok (cokTi w) rfl fun _ => rfl) mem_nil⟩
noncomputable abbrev ltT (d : SV) : List (Str × SV) := [("script", d), ("root", .obj 0), ("floors", .obj 1)]
noncomputable def treeR (P : Params) (ds : List PyData) (kd : Str) (k : Kt) : Prop := fr785 = fr785 ∧ (frHk785 P).sp ns785 ⟨ltT (.dat (.list ds)), [.list [.str kd], .list [.obj 0]]⟩ (thenT (fun st k => ev (cfTr P) 117 ns785 (.sts ((fBody s785).drop 3)) st k) k)
theorem tree_head (P : Params) (ds : List PyData) (k : Kt) : ev (cfTr P) 120 ns785 (.sts (fBody s785)) ⟨[("script", .dat (.list ds))], []⟩ k =
   ((ds.map svOf).length ≤ sizeLine ∧ ((2 : Int) ≠ 0 ∧ ifT ((((ds.map svOf).length : Int).fmod 2) == 0) (treeR P ds "s" k) (treeR P ds "h" k))) := by
  kernel_rfl
theorem tree_iter (P : Params) (ds : List PyData) (l : List SO) (k : Kt) : ev (cfTi P) 100 ns785 (.ex (frIter fr785)) ⟨ltT (.dat (.list ds)), l⟩ k = k (.v (.dat (.list (slD ds none (some 6))))) ⟨ltT (.dat (.list ds)), l⟩ := by
 kernel_rfl
theorem tree_ret (P : Params) (d : SV) (l : List SO) (k : Kt) : ev (cfTr P) 117 ns785 (.sts ((fBody s785).drop 3)) ⟨ltT d, l⟩ k = k (.ret (.obj 0)) ⟨ltT d, l⟩ := by
 kernel_rfl
noncomputable def ifEls : Stmt → List Stmt
 | .If _ _ e _ => e
 | _ => []
noncomputable def onT (C : Cf) (n : Nat) (ns : List (Str × NameKind)) (m : Str) (args : List Expr) (pos : Pos) (st : St) (x : SV) (k : Kt) : Prop := match isInst st x with
 | true => methT C st x m fun fa => ev C n ns (.args args pos) st fun b st₂ => match b with
  | .vs vs => callT C n (ev C n) fa (x :: vs) st₂ k
  | _ => False
 | false => bmT st x m fun mid => ev C n ns (.args args pos) st fun b st₂ => match b with
  | .vs vs => bcT mid st₂ x vs fun z st₃ => k (.v z) st₃
  | _ => False
noncomputable def exArgs : Stmt → List Expr
 | .Expr (.Call _ args _ _) _ => args
 | _ => []
noncomputable def exPos : Stmt → Pos
 | .Expr (.Call _ _ _ p) _ => p
 | _ => default
noncomputable def dropV (f : St → Prop) : Kt := fun r st => match r with
 | .v _ => f st
 | _ => False
noncomputable def if785 : Stmt := stAt 1 (forBody fr785)
noncomputable def elif785 : Stmt := stAt 0 (ifEls if785)
noncomputable abbrev ltX (d : SV) (x : Int) : List (Str × SV) := [("script", d), ("root", .obj 0), ("floors", .obj 1), ("x", .int x), ("kind", .int (x.fmod 8))]
noncomputable abbrev ltB (d : SV) (x : Int) (b : SV) : List (Str × SV) := [("script", d), ("root", .obj 0), ("floors", .obj 1), ("x", .int x), ("kind", .int (x.fmod 8)), ("branch", b)]
noncomputable def nxt (k : Kt) : Kt := thenT (fun st k => k .next st) k
theorem tree_turn (P : Params) (d : SV) (x : Int) (a : SO) (fl : List SV) (l : List SO) (k : Kt) : bindT ns785 (forTgt fr785) (.int x) ⟨ltT d, a :: .list fl :: l⟩ (fun st₁ => ev (cfTi P) 100 ns785 (.sts (forBody fr785)) st₁ k) =
   ((8 : Int) ≠ 0 ∧ ifT (decide (x.fmod 8 < 4)) (fl.length ≤ sizeLine ∧ ifT (decide ((fl.length : Int) < 3)) (ev (cfTi P) 97 ns785 (.sts (ifBody if785)) ⟨ltX d x, a :: .list fl :: l⟩ (nxt k)) (ev (cfTi P) 97 ns785 (.sts (ifEls if785)) ⟨ltX d x, a :: .list fl :: l⟩ (nxt k)))
     (ev (cfTi P) 97 ns785 (.sts (ifEls if785)) ⟨ltX d x, a :: .list fl :: l⟩ (nxt k))) := by
  kernel_rfl
theorem tree_open (P : Params) (d : SV) (x : Int) (a : SO) (fl : List SV) (l : List SO) (k : Kt) : ev (cfTi P) 97 ns785 (.sts (ifBody if785)) ⟨ltX d x, a :: .list fl :: l⟩ k =
   (-((("shed" : Str)).length : Int) ≤ x.fmod 8 ∧ x.fmod 8 < (("shed" : Str)).length ∧ ∃ y, idxP fl (-1) y ∧ onT (cfTi P) 93 ns785 "append" (exArgs (stAt 1 (ifBody if785))) (exPos (stAt 1 (ifBody if785)))
      ⟨ltB d x (.obj (a :: .list fl :: l).length), (a :: .list fl :: l) ++ [.list [.str (Txt.item "shed" (x.fmod 8))]]⟩ y
      (dropV fun st => ev (cfTi P) 95 ns785 (.sts ((ifBody if785).drop 2)) st k)) := by
  kernel_rfl
theorem tree_els (P : Params) (d : SV) (x : Int) (a : SO) (fl : List SV) (l : List SO) (k : Kt) : ev (cfTi P) 97 ns785 (.sts (ifEls if785)) ⟨ltX d x, a :: .list fl :: l⟩ k =
   ifT (x.fmod 8 != 4) (∃ y, idxP fl (-1) y ∧ onT (cfTi P) 92 ns785 "append" (exArgs (stAt 0 (ifBody elif785))) (exPos (stAt 0 (ifBody elif785))) ⟨ltX d x, a :: .list fl :: l⟩ y
        (dropV fun st => nxt k .next st))
     (fl.length ≤ sizeLine ∧ ifT (decide ((1 : Int) < (fl.length : Int))) (∃ xs y, some (SO.list fl) = some (.list (xs ++ [y])) ∧ xs.length < sizeLine ∧ nxt (nxt k) .next ⟨ltX d x, a :: .list xs :: l⟩) (nxt (nxt k) .next ⟨ltX d x, a :: .list fl :: l⟩)) := by
  kernel_rfl
theorem on_list {C : Cf} {n : Nat} {ns : List (Str × NameKind)} {args : List Expr} {pos : Pos} {st : St} {i : Nat} {xs : List SV} {k : Kt} (h : st.led[i]? = some (.list xs))
  (e : ev C n ns (.args args pos) st fun b st₂ => match b with | .vs vs => bcT "list.append" st₂ (.obj i) vs fun z st₃ => k (.v z) st₃ | _ => False) : onT C n ns "append" args pos st (.obj i) k := by
 unfold onT
 have h1 : isInst st (.obj i) = false := by unfold isInst; dsimp only; rw [h]
 rw [h1]
 show onLst st.led[i]? _
 rw [h]
 exact e
theorem args_branch (P : Params) (d : SV) (x : Int) (b : SV) (L : List SO) (k : Kt) : ev (cfTi P) 93 ns785 (.args (exArgs (stAt 1 (ifBody if785))) (exPos (stAt 1 (ifBody if785)))) ⟨ltB d x b, L⟩ k = k (.vs [b]) ⟨ltB d x b, L⟩ := by
 kernel_rfl
theorem args_text (P : Params) (d : SV) (x : Int) (L : List SO) (k : Kt) : ev (cfTi P) 92 ns785 (.args (exArgs (stAt 0 (ifBody elif785))) (exPos (stAt 0 (ifBody elif785)))) ⟨ltX d x, L⟩ k =
   (((8 : Int) ≠ 0 ∧ (8 : Int).natAbs < 1073741824) ∧ k (.vs [.str (tx (leafN (x.fdiv 8)))]) ⟨ltX d x, L⟩) := by
  kernel_rfl
theorem floors_app (P : Params) (d : SV) (x : Int) (b : SV) (a : SO) (fl : List SV) (l : List SO) (k : Kt) : ev (cfTi P) 95 ns785 (.sts ((ifBody if785).drop 2)) ⟨ltB d x b, a :: .list fl :: l⟩ k =
   (fl.length ≤ sizeLine ∧ k .next ⟨ltB d x b, a :: .list (fl ++ [b]) :: l⟩) := by
  kernel_rfl
inductive TS where
 | one (r : List PyData)
 | two (r a : List PyData)
 | three (r a b : List PyData)
noncomputable def kindS (x : Int) : Str := Txt.item "shed" (x.fmod 8)
noncomputable def leafD (x : Int) : PyData := .str (tx (leafN (x.fdiv 8)))
noncomputable def tstep (x : Int) : TS → TS
 | .one r => if x.fmod 8 < 4 then .two r [.str (kindS x)] else if x.fmod 8 = 4 then .one r else .one (r ++ [leafD x])
 | .two r a => if x.fmod 8 < 4 then .three r a [.str (kindS x)] else if x.fmod 8 = 4 then .one (r ++ [.list a]) else .two r (a ++ [leafD x])
 | .three r a b => if x.fmod 8 = 4 then .two r (a ++ [.list b]) else .three r a (b ++ [leafD x])
noncomputable def TS.fin : TS → PyData
 | .one r => .list r
 | .two r a => .list (r ++ [.list a])
 | .three r a b => .list (r ++ [.list (a ++ [.list b])])
noncomputable def TS.len : TS → Nat
 | .one r => r.length
 | .two r a => r.length + a.length
 | .three r a b => r.length + a.length + b.length
noncomputable def TS.led (it : SO) : TS → List SO
 | .one r => [.list (r.map svOf), .list [.obj 0], it]
 | .two r a => [.list (r.map svOf ++ [.obj 3]), .list [.obj 0, .obj 3], it, .list (a.map svOf)]
 | .three r a b => [.list (r.map svOf ++ [.obj 3]), .list [.obj 0, .obj 3, .obj 4], it, .list (a.map svOf ++ [.obj 4]), .list (b.map svOf)]
theorem idx_last {fl : List SV} {y : SV} (h : fl ≠ []) (e : fl.getLast h = y) (hl : fl.length ≤ 1000) : idxP fl (-1) y := by
 have hp : 0 < fl.length := List.length_pos_iff.mpr h
 refine ⟨fl.length - 1, ?_, ?_, by decide, by decide⟩
 ·unfold seqIndex?
  simp
  lia
 ·rw [← e, List.getLast_eq_getElem, List.getElem?_eq_getElem]
theorem svsT_app {n : Nat} {led : List SO} : ∀ {a b c d : List SV}, SvsT n led a b → SvsT n led c d → SvsT n led (a ++ c) (b ++ d) := by
 intro a b c d r h
 induction r with
 | nil => exact h
 | cons x _ ih => exact .cons x ih
theorem frzL_svOf (led : List SO) : ∀ l : List PyData, FrzL led (l.map svOf) l
 | [] => .nil
 | d :: r => .cons (by cases d <;> constructor) (frzL_svOf led r)
theorem frzL_app {led : List SO} : ∀ {a c : List SV} {b d : List PyData}, FrzL led a b → FrzL led c d → FrzL led (a ++ c) (b ++ d) := by
 intro a
 induction a with
 | nil => intro c b d r h; cases r; exact h
 | cons x xs ih => intro c b d r h; cases r with | cons x r => exact .cons x (ih r h)
theorem okF_ltT {n : Nat} (ds : List PyData) (h : 2 ≤ n) : okF n (ltT (.dat (.list ds))) := ⟨trivial, by show 0 < n; lia, by show 1 < n; lia, trivial⟩
theorem ltB_eq (d : SV) (x : Int) (b : SV) : ltB d x b = ltT d ++ ([("x", .int x), ("kind", .int (x.fmod 8)), ("branch", b)] : List (Str × SV)) := rfl
theorem ltX_eq (d : SV) (x : Int) : ltX d x = ltT d ++ ([("x", .int x), ("kind", .int (x.fmod 8))] : List (Str × SV)) := rfl
theorem trim_B {n : Nat} (ds : List PyData) (x : Int) (b : SV) {led led' : List SO} (hn : 2 ≤ n) (h : SosT n led (led.take n) led') : Trim n ⟨ltB (.dat (.list ds)) x b, led⟩ ⟨ltT (.dat (.list ds)), led'⟩ := by
 rw [ltB_eq]; exact trimK (okF_ltT ds hn) h
theorem trim_X {n : Nat} (ds : List PyData) (x : Int) {led led' : List SO} (hn : 2 ≤ n) (h : SosT n led (led.take n) led') : Trim n ⟨ltX (.dat (.list ds)) x, led⟩ ⟨ltT (.dat (.list ds)), led'⟩ := by
 rw [ltX_eq]; exact trimK (okF_ltT ds hn) h
theorem map_snoc (r : List PyData) (d : PyData) : (r ++ [d]).map svOf = r.map svOf ++ [svOf d] := by rw [List.map_append]; rfl
section
variable {P : Params} {ds : List PyData} {x : Int} {it : SO} {K : Kt} {G : St → Prop}
theorem ifT_dec {p : Prop} [Decidable p] {a b : Prop} (h1 : p → a) (h2 : ¬ p → b) : ifT (decide p) a b := ifT_of (fun q => h1 (of_decide_eq_true q)) fun q => h2 (of_decide_eq_false q)
theorem tree_open' {a : SO} {fl : List SV} {l : List SO} {i : Nat} {xs : List SV} (h1 : x.fmod 8 < 4) (hi : idxP fl (-1) (.obj i)) (hs : ((a :: SO.list fl :: l) ++ [SO.list [SV.str (kindS x)]])[i]? = some (SO.list xs)) (hx : xs.length ≤ 1000)
  (hk : ∀ l', ((a :: SO.list fl :: l) ++ [SO.list [SV.str (kindS x)]]).set i (SO.list (xs ++ [SV.obj (a :: SO.list fl :: l).length])) = l' → ev (cfTi P) 95 ns785 (.sts ((ifBody if785).drop 2)) ⟨ltB (.dat (.list ds)) x (.obj (a :: SO.list fl :: l).length), l'⟩ K) :
  ev (cfTi P) 97 ns785 (.sts (ifBody if785)) ⟨ltX (.dat (.list ds)) x, a :: SO.list fl :: l⟩ K := by
 rw [tree_open]
 have e4 : (("shed" : Str).length : Int) = 4 := by rfl
 have h0 : 0 ≤ x.fmod 8 := Int.fmod_nonneg_of_pos x (by decide)
 refine ⟨by rw [e4]; lia, by rw [e4]; exact h1, _, hi, on_list hs ?_⟩
 rw [args_branch]
 show onLst ((a :: SO.list fl :: l) ++ [SO.list [SV.str (Txt.item "shed" (x.fmod 8))]])[i]? _
 have hs' : ((a :: SO.list fl :: l) ++ [SO.list [SV.str (Txt.item "shed" (x.fmod 8))]])[i]? = some (SO.list xs) := hs
 rw [hs']
 exact ⟨by rw [sizeLine_eq]; lia, hk _ rfl⟩
theorem tree_leaf' {a : SO} {fl : List SV} {l : List SO} {i : Nat} {xs : List SV} (h1 : x.fmod 8 ≠ 4) (hi : idxP fl (-1) (.obj i)) (hs : (a :: SO.list fl :: l)[i]? = some (SO.list xs)) (hx : xs.length ≤ 1000)
  (hk : ∀ l', (a :: SO.list fl :: l).set i (.list (xs ++ [svOf (leafD x)])) = l' → K .next ⟨ltX (.dat (.list ds)) x, l'⟩) :
  ev (cfTi P) 97 ns785 (.sts (ifEls if785)) ⟨ltX (.dat (.list ds)) x, a :: SO.list fl :: l⟩ K := by
 rw [tree_els]
 have hb : (x.fmod 8 != 4) = true := by simpa using h1
 rw [hb]
 refine ⟨_, hi, on_list hs ?_⟩
 rw [args_text]
 refine ⟨⟨by decide, by decide⟩, ?_⟩
 show onLst (a :: SO.list fl :: l)[i]? _
 rw [hs]
 exact ⟨by rw [sizeLine_eq]; lia, hk _ rfl⟩
end
theorem tree_step (P : Params) (ds : List PyData) (x : Int) (t : TS) (it : SO) (K : Kt) (G : St → Prop) (hit : ∀ n led, 2 < n → SoT n led it it) (hl : t.len ≤ 900)
  (hK : ∀ st₂ n st₃, 3 ≤ n → n ≤ st₂.led.length → Trim n st₂ st₃ → G st₃ → K .next st₂) (hG : G ⟨ltT (.dat (.list ds)), (tstep x t).led it⟩) :
  bindT ns785 (forTgt fr785) (.int x) ⟨ltT (.dat (.list ds)), t.led it⟩ (fun st₁ => ev (cfTi P) 100 ns785 (.sts (forBody fr785)) st₁ K) := by
 have hmap : ∀ r : List PyData, (r.map svOf).length = r.length := fun r => List.length_map _
 have hsv : ∀ (n : Nat) (led : List SO) (r : List PyData), SvsT n led (r.map svOf) (r.map svOf) := fun n led r => svsT_svOf n led r
 have hob : ∀ (n : Nat) (led : List SO) (i : Nat), i < n → SvsT n led [.obj i] [.obj i] := fun n led i h => .cons (.keep h) .nil
 have hfl2 : ∀ (n : Nat) (led : List SO), 3 < n → SvsT n led [.obj 0, .obj 3] [.obj 0, .obj 3] := fun n led h => .cons (.keep (by lia)) (.cons (.keep h) .nil)
 have hfl3 : ∀ (n : Nat) (led : List SO), 4 < n → SvsT n led [.obj 0, .obj 3, .obj 4] [.obj 0, .obj 3, .obj 4] := fun n led h => .cons (.keep (by lia)) (.cons (.keep (by lia)) (.cons (.keep h) .nil))
 cases t with
 | one r =>
  have hl1 : r.length ≤ 900 := hl
  show bindT ns785 (forTgt fr785) (.int x) ⟨ltT (.dat (.list ds)), .list (r.map svOf) :: .list [.obj 0] :: [it]⟩ _
  rw [tree_turn]
  refine ⟨by decide, ?_⟩
  have hels : ¬ x.fmod 8 < 4 → ev (cfTi P) 97 ns785 (.sts (ifEls if785)) ⟨ltX (.dat (.list ds)) x, .list (r.map svOf) :: .list [.obj 0] :: [it]⟩ (nxt K) := fun h4 => by
   by_cases h5 : x.fmod 8 = 4
   ·have e : tstep x (.one r) = .one r := by unfold tstep; dsimp only; rw [if_neg h4, if_pos h5]
    rw [e] at hG
    rw [tree_els]
    have hb : (x.fmod 8 != 4) = false := by simpa using h5
    rw [hb]
    refine ⟨by rw [sizeLine_eq]; decide, ?_⟩
    refine hK _ 3 _ (by lia) (Nat.le_refl 3) (trim_X ds x (by lia) ?_) hG
    exact .cons (.list (hsv _ _ _)) (.cons (.list (hob _ _ _ (by lia))) (.cons (hit _ _ (by lia)) .nil))
   ·have e : tstep x (.one r) = .one (r ++ [leafD x]) := by unfold tstep; dsimp only; rw [if_neg h4, if_neg h5]
    rw [e] at hG
    refine tree_leaf' (i := 0) h5 (idx_last (by intro h; cases h) rfl (by decide)) rfl (by rw [hmap]; lia) fun l' el => ?_
    subst el
    refine hK _ 3 _ (by lia) (Nat.le_refl 3) (trim_X ds x (by lia) (led' := [.list ((r ++ [leafD x]).map svOf), .list [.obj 0], it]) ?_) hG
    rw [map_snoc]
    exact .cons (.list (svsT_app (hsv _ _ _) (hsv _ _ [leafD x]))) (.cons (.list (hob _ _ _ (by lia))) (.cons (hit _ _ (by lia)) .nil))
  refine ifT_dec (fun h4 => ⟨by rw [sizeLine_eq]; decide, ?_⟩) hels
  have e : tstep x (.one r) = .two r [.str (kindS x)] := by unfold tstep; dsimp only; rw [if_pos h4]
  rw [e] at hG
  refine ifT_of (fun _ => ?_) (fun q => absurd (of_decide_eq_false q) (by simp))
  refine tree_open' (i := 0) h4 (idx_last (by intro h; cases h) rfl (by decide)) rfl (by rw [hmap]; lia) fun l' el => ?_
  subst el
  show ev (cfTi P) 95 ns785 (.sts ((ifBody if785).drop 2)) ⟨ltB (.dat (.list ds)) x (.obj 3), .list (r.map svOf ++ [SV.obj 3]) :: .list [.obj 0] :: [it, .list [.str (kindS x)]]⟩ (nxt K)
  rw [floors_app]
  refine ⟨by rw [sizeLine_eq]; decide, ?_⟩
  refine hK _ 4 _ (by lia) (Nat.le_refl 4) (trim_B ds x _ (by lia) ?_) hG
  exact .cons (.list (svsT_app (hsv _ _ _) (hob _ _ _ (by lia)))) (.cons (.list (hfl2 _ _ (by lia))) (.cons (hit _ _ (by lia)) (.cons (.list (hsv _ _ [.str (kindS x)])) .nil)))
 | two r a =>
  have hl1 : r.length + a.length ≤ 900 := hl
  show bindT ns785 (forTgt fr785) (.int x) ⟨ltT (.dat (.list ds)), .list (r.map svOf ++ [SV.obj 3]) :: .list [.obj 0, .obj 3] :: [it, .list (a.map svOf)]⟩ _
  rw [tree_turn]
  refine ⟨by decide, ?_⟩
  have hels : ¬ x.fmod 8 < 4 → ev (cfTi P) 97 ns785 (.sts (ifEls if785)) ⟨ltX (.dat (.list ds)) x, .list (r.map svOf ++ [SV.obj 3]) :: .list [.obj 0, .obj 3] :: [it, .list (a.map svOf)]⟩ (nxt K) := fun h4 => by
   by_cases h5 : x.fmod 8 = 4
   ·have e : tstep x (.two r a) = .one (r ++ [.list a]) := by unfold tstep; dsimp only; rw [if_neg h4, if_pos h5]
    rw [e] at hG
    rw [tree_els]
    have hb : (x.fmod 8 != 4) = false := by simpa using h5
    rw [hb]
    refine ⟨by rw [sizeLine_eq]; decide, ?_⟩
    refine ⟨[.obj 0], .obj 3, rfl, by rw [sizeLine_eq]; decide, ?_⟩
    refine hK _ 3 _ (by lia) (by show 3 ≤ 4; lia) (trim_X ds x (by lia) (led' := [.list ((r ++ [PyData.list a]).map svOf), .list [.obj 0], it]) ?_) hG
    rw [map_snoc]
    refine .cons (.list (svsT_app (hsv _ _ _) (.cons ?_ .nil))) (.cons (.list (hob _ _ _ (by lia))) (.cons (hit _ _ (by lia)) .nil))
    exact .frz (.list rfl (by rw [hmap, sizeLine_eq]; lia) (frzL_svOf _ a))
   ·have e : tstep x (.two r a) = .two r (a ++ [leafD x]) := by unfold tstep; dsimp only; rw [if_neg h4, if_neg h5]
    rw [e] at hG
    refine tree_leaf' (i := 3) h5 (idx_last (by intro h; cases h) rfl (by decide)) rfl (by rw [hmap]; lia) fun l' el => ?_
    subst el
    refine hK _ 4 _ (by lia) (Nat.le_refl 4) (trim_X ds x (by lia) (led' := [.list (r.map svOf ++ [SV.obj 3]), .list [.obj 0, .obj 3], it, .list ((a ++ [leafD x]).map svOf)]) ?_) hG
    rw [map_snoc]
    exact .cons (.list (svsT_app (hsv _ _ _) (hob _ _ _ (by lia)))) (.cons (.list (hfl2 _ _ (by lia))) (.cons (hit _ _ (by lia)) (.cons (.list (svsT_app (hsv _ _ _) (hsv _ _ [leafD x]))) .nil)))
  refine ifT_dec (fun h4 => ⟨by rw [sizeLine_eq]; decide, ?_⟩) hels
  have e : tstep x (.two r a) = .three r a [.str (kindS x)] := by unfold tstep; dsimp only; rw [if_pos h4]
  rw [e] at hG
  refine ifT_of (fun _ => ?_) (fun q => absurd (of_decide_eq_false q) (by simp))
  refine tree_open' (i := 3) h4 (idx_last (by intro h; cases h) rfl (by decide)) rfl (by rw [hmap]; lia) fun l' el => ?_
  subst el
  show ev (cfTi P) 95 ns785 (.sts ((ifBody if785).drop 2)) ⟨ltB (.dat (.list ds)) x (.obj 4), .list (r.map svOf ++ [SV.obj 3]) :: .list [.obj 0, .obj 3] :: [it, .list (a.map svOf ++ [SV.obj 4]), .list [.str (kindS x)]]⟩ (nxt K)
  rw [floors_app]
  refine ⟨by rw [sizeLine_eq]; decide, ?_⟩
  refine hK _ 5 _ (by lia) (Nat.le_refl 5) (trim_B ds x _ (by lia) ?_) hG
  exact .cons (.list (svsT_app (hsv _ _ _) (hob _ _ _ (by lia)))) (.cons (.list (hfl3 _ _ (by lia))) (.cons (hit _ _ (by lia)) (.cons (.list (svsT_app (hsv _ _ _) (hob _ _ _ (by lia)))) (.cons (.list (hsv _ _ [.str (kindS x)])) .nil))))
 | three r a b =>
  have hl1 : r.length + a.length + b.length ≤ 900 := hl
  show bindT ns785 (forTgt fr785) (.int x) ⟨ltT (.dat (.list ds)), .list (r.map svOf ++ [SV.obj 3]) :: .list [.obj 0, .obj 3, .obj 4] :: [it, .list (a.map svOf ++ [SV.obj 4]), .list (b.map svOf)]⟩ _
  rw [tree_turn]
  refine ⟨by decide, ?_⟩
  have hels : ev (cfTi P) 97 ns785 (.sts (ifEls if785)) ⟨ltX (.dat (.list ds)) x, .list (r.map svOf ++ [SV.obj 3]) :: .list [.obj 0, .obj 3, .obj 4] :: [it, .list (a.map svOf ++ [SV.obj 4]), .list (b.map svOf)]⟩ (nxt K) := by
   by_cases h5 : x.fmod 8 = 4
   ·have e : tstep x (.three r a b) = .two r (a ++ [.list b]) := by unfold tstep; dsimp only; rw [if_pos h5]
    rw [e] at hG
    rw [tree_els]
    have hb : (x.fmod 8 != 4) = false := by simpa using h5
    rw [hb]
    refine ⟨by rw [sizeLine_eq]; decide, ?_⟩
    refine ⟨[.obj 0, .obj 3], .obj 4, rfl, by rw [sizeLine_eq]; decide, ?_⟩
    refine hK _ 4 _ (by lia) (by show 4 ≤ 5; lia) (trim_X ds x (by lia) (led' := [.list (r.map svOf ++ [SV.obj 3]), .list [.obj 0, .obj 3], it, .list ((a ++ [PyData.list b]).map svOf)]) ?_) hG
    rw [map_snoc]
    refine .cons (.list (svsT_app (hsv _ _ _) (hob _ _ _ (by lia)))) (.cons (.list (hfl2 _ _ (by lia))) (.cons (hit _ _ (by lia)) (.cons (.list (svsT_app (hsv _ _ _) (.cons ?_ .nil))) .nil)))
    exact .frz (.list rfl (by rw [hmap, sizeLine_eq]; lia) (frzL_svOf _ b))
   ·have e : tstep x (.three r a b) = .three r a (b ++ [leafD x]) := by unfold tstep; dsimp only; rw [if_neg h5]
    rw [e] at hG
    refine tree_leaf' (i := 4) h5 (idx_last (by intro h; cases h) rfl (by decide)) rfl (by rw [hmap]; lia) fun l' el => ?_
    subst el
    refine hK _ 5 _ (by lia) (Nat.le_refl 5) (trim_X ds x (by lia) (led' := [.list (r.map svOf ++ [SV.obj 3]), .list [.obj 0, .obj 3, .obj 4], it, .list (a.map svOf ++ [SV.obj 4]), .list ((b ++ [leafD x]).map svOf)]) ?_) hG
    rw [map_snoc]
    exact .cons (.list (svsT_app (hsv _ _ _) (hob _ _ _ (by lia)))) (.cons (.list (hfl3 _ _ (by lia))) (.cons (hit _ _ (by lia)) (.cons (.list (svsT_app (hsv _ _ _) (hob _ _ _ (by lia)))) (.cons (.list (svsT_app (hsv _ _ _) (hsv _ _ [leafD x]))) .nil))))
  exact ifT_dec (fun h4 => ⟨by rw [sizeLine_eq]; decide, ifT_of (fun q => absurd (of_decide_eq_true q) (by decide)) fun _ => hels⟩) fun _ => hels
theorem slD_eq (ds : List PyData) (lo hi : Option Int) : slD ds lo hi = (ds.drop (lo.elim 0 (PySem.clipAt ds.length))).take (hi.elim ds.length (PySem.clipAt ds.length) - lo.elim 0 (PySem.clipAt ds.length)) := by
 unfold slD
 rw [PySem.sliceBounds_plain]
 dsimp only
 rw [PySem.sliceRange_one, List.filterMap_map]
 generalize lo.elim 0 (PySem.clipAt ds.length) = a
 generalize hi.elim ds.length (PySem.clipAt ds.length) - a = n
 have key : ∀ (n a : Nat) (ds : List PyData), (List.range n).filterMap ((fun x => ds[x]?) ∘ fun x => a + x) = (ds.drop a).take n := by
  intro n
  induction n with
  | zero => intro a ds; rfl
  | succ n ih =>
   intro a ds
   rw [List.range_succ, List.filterMap_append, ih, List.take_add_one]
   congr 1
   rw [List.getElem?_drop]
   cases h : ds[a + n]? <;> simp [h]
 exact key n a ds
theorem clip_nat (n a : Nat) : PySem.clipAt n (a : Int) = min a n := PySem.clipAt_nat n a
theorem slD_take (ds : List PyData) (n : Nat) : slD ds none (some (n : Int)) = ds.take n := by
 rw [slD_eq]
 show ((ds.drop 0).take (PySem.clipAt ds.length (n : Int) - 0)) = _
 rw [clip_nat, List.drop_zero, Nat.sub_zero]
 rw [List.take_eq_take_iff]
 lia
theorem slD_drop (ds : List PyData) (n : Nat) : slD ds (some (n : Int)) none = ds.drop n := by
 rw [slD_eq]
 show ((ds.drop (PySem.clipAt ds.length (n : Int))).take (ds.length - PySem.clipAt ds.length (n : Int))) = _
 rw [clip_nat]
 have : ds.length - min n ds.length = (ds.drop (min n ds.length)).length := by rw [List.length_drop]
 rw [this, List.take_length]
 by_cases h : n ≤ ds.length
 ·rw [Nat.min_eq_left h]
 ·rw [Nat.min_eq_right (by lia), List.drop_length, List.drop_eq_nil_of_le (by lia)]
theorem tstep_len (x : Int) (t : TS) : (tstep x t).len ≤ t.len + 1 := by
 cases t <;> simp only [tstep] <;> (repeat' split) <;> simp [TS.len] <;> lia
theorem tree_loop (P : Params) (ds es : List PyData) (all : List SV) (hall : all = es.map svOf) (k : Kt) : ∀ (rest : List Int) (j : Nat) (t : TS), t.len + rest.length ≤ 900 →
  k .next ⟨ltT (.dat (.list ds)), (rest.foldl (fun t x => tstep x t) t).led .gone⟩ →
  forG (bindT ns785 (forTgt fr785)) (fun st k => ev (cfTi P) 100 ns785 (.sts (forBody fr785)) st k) (.dat (.list es)) all (.it true (.dat (.list es))) 2 3 j (rest.map .int)
   ⟨ltT (.dat (.list ds)), t.led (.it true (.dat (.list es)) j)⟩ k := by
 have get2 : ∀ (t : TS) (it : SO), (t.led it)[2]? = some it := fun t it => by cases t <;> rfl
 have set2 : ∀ (t : TS) (it it' : SO), (t.led it).set 2 it' = t.led it' := fun t it it' => by cases t <;> rfl
 have src : ∀ st : St, srcT st (.dat (.list es)) = some (all, .it true (.dat (.list es))) := fun st => by rw [hall]; rfl
 intro rest
 induction rest with
 | nil =>
  intro j t hl hk
  refine ⟨get2 _ _, src _, ?_⟩
  show k .next ⟨_, (t.led _).set 2 .gone⟩
  rw [set2]; exact hk
 | cons x r ih =>
  intro j t hl hk
  rw [List.length_cons] at hl
  refine ⟨get2 _ _, src _, ?_⟩
  show bindT ns785 (forTgt fr785) (.int x) ⟨_, (t.led _).set 2 (.it true (.dat (.list es)) (j + 1))⟩ _
  rw [set2]
  refine tree_step P ds x t _ _ (fun st₃ => forG (bindT ns785 (forTgt fr785)) (fun st k => ev (cfTi P) 100 ns785 (.sts (forBody fr785)) st k) (.dat (.list es)) all (.it true (.dat (.list es))) 2 3 (j + 1) (r.map .int) st₃ k)
   (fun _ _ _ => .it (.same trivial)) (by lia) (fun st₂ n st₃ h1 h2 h3 h4 => ⟨n, st₃, h1, h2, h3, h4⟩) ?_
  refine ih (j + 1) (tstep x t) ?_ hk
  have := tstep_len x t
  lia
noncomputable def treeOf (xs : List Int) : PyData := ((xs.take 6).foldl (fun t x => tstep x t) (.one [.str (if xs.length % 2 = 0 then "s" else "h")])).fin
noncomputable def treeF (svs : List SV) (st : St) (k : Kt) : Prop := match svs with
 | [.dat d] => ∃ xs : List Int, d = .list (xs.map .int) ∧ xs.length ≤ 1000 ∧ k (.v (svOf (treeOf xs))) st
 | _ => False
noncomputable def treeSp : SpE := ⟨785, 1, 140, treeF⟩
theorem treeF_cases {svs : List SV} {st : St} {k : Kt} (h : treeF svs st k) : ∃ xs : List Int, svs = [.dat (.list (xs.map .int))] ∧ xs.length ≤ 1000 ∧ k (.v (svOf (treeOf xs))) st := by
 unfold treeF at h
 split at h
 ·obtain ⟨xs, rfl, a, b⟩ := h; exact ⟨xs, rfl, a, b⟩
 ·exact h.elim
theorem frz_TS (t : TS) (it : SO) (hl : t.len ≤ 1000) : Frz (t.led it) (.obj 0) t.fin := by
 have hmap : ∀ r : List PyData, (r.map svOf).length = r.length := fun r => List.length_map _
 cases t with
 | one r =>
  have : r.length ≤ 1000 := hl
  exact .list rfl (by rw [hmap, sizeLine_eq]; lia) (frzL_svOf _ r)
 | two r a =>
  have : r.length + a.length ≤ 1000 := hl
  exact .list (xs := r.map svOf ++ [.obj 3]) rfl (by rw [List.length_append, hmap, sizeLine_eq]; show _ + 1 ≤ _; lia) (frzL_app (frzL_svOf _ r) (.cons (.list (xs := a.map svOf) rfl (by rw [hmap, sizeLine_eq]; lia) (frzL_svOf _ a)) .nil))
 | three r a b =>
  have : r.length + a.length + b.length ≤ 1000 := hl
  exact .list (xs := r.map svOf ++ [.obj 3]) rfl (by rw [List.length_append, hmap, sizeLine_eq]; show _ + 1 ≤ _; lia) (frzL_app (frzL_svOf _ r) (.cons (.list (xs := a.map svOf ++ [.obj 4]) rfl (by rw [List.length_append, hmap, sizeLine_eq]; show _ + 1 ≤ _; lia) (frzL_app (frzL_svOf _ a) (.cons (.list (xs := b.map svOf) rfl (by rw [hmap, sizeLine_eq]; lia) (frzL_svOf _ b)) .nil))) .nil))
theorem fold_len : ∀ (rest : List Int) (t : TS), (rest.foldl (fun t x => tstep x t) t).len ≤ t.len + rest.length
 | [], t => Nat.le_refl _
 | x :: r, t => by
  have h1 := fold_len r (tstep x t)
  have h2 := tstep_len x t
  rw [List.foldl_cons, List.length_cons]
  lia
theorem tree_ok {w : World} {C : Cf} (hK : C.K = KK w.params) (hC : C.known = true) : SpOk w C treeSp := by
 refine ⟨by rw [hK]; kernel_rfl, ?_⟩
 intro F A ads st s svs vs k Q Rr ok hA hh hd hu h R D hl' T hR
 replace hA : true = true → A.frames = some F.stk := fun _ => hA hC
 obtain ⟨xs, rfl, hlen, hk⟩ := treeF_cases h
 have okY : FmOk (cfTr w.params) F := fm_same hK.symm ok (by first | exact fun _ => rfl | exact fun _ => by assumption | exact fun h => h)
 have d40 : treeSp.d = 140 := rfl
 rw [d40] at hd hu
 refine call_sub (e := f785) (n := 120) (led₁ := []) (led₂ := st.led) (sound (cokTr w) 120) (fok785 _) okY hA hh (by lia) (by lia) R D hl' rfl trivial (fun x hx => by rw [List.mem_singleton.mp hx]; exact trivial) List.nodup_nil ?_ T hR
 show ev (cfTr w.params) 120 ns785 (.sts (fBody s785)) ⟨[("script", .dat (.list (xs.map .int)))], []⟩ _
 rw [tree_head]
 have hm : ((xs.map PyData.int).map svOf).length = xs.length := by simp
 have hmi : ∀ l : List Int, (l.map PyData.int).map svOf = l.map SV.int := fun l => by rw [List.map_map]; rfl
 have core : ∀ kd : Str, (if xs.length % 2 = 0 then ("s" : Str) else "h") = kd → treeR w.params (xs.map .int) kd (fun r st' => ∃ x y led', (r = .ret x ∨ (r = .next ∧ x = .none)) ∧ SvT 0 st'.led x y ∧ SosT 0 st'.led (st'.led.take 0) led' ∧ k (.v y) { loc := st.loc, led := led' ++ st.led }) := by
  intro kd hkd
  refine ⟨rfl, rfl, by kernel_rfl, ?_⟩
  rw [tree_iter]
  have e6 : slD (xs.map PyData.int) none (some 6) = (xs.take 6).map .int := by
   rw [show (6 : Int) = ((6 : Nat) : Int) from rfl, slD_take, List.map_take]
  rw [e6]
  refine ⟨(xs.take 6).map SV.int, .it true (.dat (.list ((xs.take 6).map .int))), by unfold srcT; dsimp only; rw [hmi], ?_⟩
  refine tree_loop w.params (xs.map .int) ((xs.take 6).map .int) _ (hmi _).symm _ (xs.take 6) 0 (.one [.str kd]) ?_ ?_
  ·show 1 + (xs.take 6).length ≤ 900
   rw [List.length_take]; lia
  ·rw [thenT_next, tree_ret]
   have hl := fold_len (xs.take 6) (.one [.str kd])
   have hl2 : ((xs.take 6).foldl (fun t x => tstep x t) (.one [.str kd])).len ≤ 1000 := by
    rw [List.length_take] at hl
    have : (TS.one [PyData.str kd]).len = 1 := rfl
    lia
   refine ⟨.obj 0, svOf (treeOf xs), [], .inl rfl, ?_, .nil, hk⟩
   unfold treeOf
   rw [hkd]
   exact .frz (frz_TS _ _ hl2)
 refine ⟨by rw [hm, sizeLine_eq]; lia, by decide, ?_⟩
 rw [hm]
 have e2 : ((xs.length : Int).fmod 2 == 0) = decide (xs.length % 2 = 0) := by
  have : (xs.length : Int).fmod 2 = ((xs.length % 2 : Nat) : Int) := by
   rw [Int.fmod_eq_emod_of_nonneg _ (by decide)]; rfl
  rw [this]
  by_cases h : xs.length % 2 = 0
  ·rw [h]; rfl
  ·rw [decide_eq_false h, beq_eq_false_iff_ne]; lia
 rw [e2]
 exact ifT_dec (fun h => core _ (if_pos h)) fun h => core _ (if_neg h)
noncomputable def s795 : Stmt := stAt 35 B01
noncomputable def f795 : FnE := ⟨795, 2, ["tree", "lines"], [], fBody s795, fScope s795, "_law_written", .ref 794, ["texts", "lines"]⟩
theorem fok795 (P : Params) : FnOk (KK P) f795 := FnOk.of (by kernel_rfl) (by kernel_rfl) ⟨_, _, _, _, (by kernel_rfl : (KK P).lookup 795 = some (o795 P)), rfl, rfl, fun _ _ => rfl, rfl, rfl, fun s vs X h => by
 obtain ⟨a, b, rfl⟩ := len2 h
 exact BindsTo.of_eq (by kernel_rfl)⟩
noncomputable def ns795 : List (Str × NameKind) := (fScope s795).names
noncomputable def gWr : List (Str × Value) := [("isinstance", .builtin "isinstance"), ("str", .type "str"), ("range", .type "range"), ("len", .builtin "len"), ("join_shlex", .ref 751), ("_law_marked", .ref 790), ("_law_written", .ref 795)]
theorem gokWr (P : Params) : ∀ p ∈ gWr, GlobAt (KK P) p :=
 mem_cons' ⟨by kernel_rfl, .inr ⟨by kernel_rfl, by kernel_rfl, by kernel_rfl⟩⟩ <| mem_cons' ⟨by kernel_rfl, .inr ⟨by kernel_rfl, by kernel_rfl, by kernel_rfl⟩⟩ <| mem_cons' ⟨by kernel_rfl, .inr ⟨by kernel_rfl, by kernel_rfl, by kernel_rfl⟩⟩ <|
 mem_cons' ⟨by kernel_rfl, .inr ⟨by kernel_rfl, by kernel_rfl, by kernel_rfl⟩⟩ <| mem_cons' ⟨by kernel_rfl, .inl (by kernel_rfl)⟩ <| mem_cons' ⟨by kernel_rfl, .inl (by kernel_rfl)⟩ <| mem_cons' ⟨by kernel_rfl, .inl (by kernel_rfl)⟩ mem_nil
noncomputable abbrev cfWr (P : Params) (d : Nat) (rf : List SV → St → Kt → Prop) : Cf where
 K := KK P
 globs := gWr
 fns := []
 cls := []
 sps := [⟨795, 2, d, rf⟩, joinSp, markedSp]
noncomputable abbrev wrSt (t : SV) (ls : List SV) (more : List (Str × SV)) (c : SO) (l : List SO) : St := ⟨("texts", .obj 2) :: ("lines", .obj 3) :: ("tree", t) :: ("lines", .obj 1) :: more, .tab 746 :: .list ls :: c :: .cell (some (.obj 1)) :: l⟩
theorem wr_leaf (P : Params) (d n : Nat) (rf : List SV → St → Kt → Prop) (t : Str) (ls : List SV) (k : Kt) : ev (cfWr P d rf) (n + 200) ns795 (.sts (fBody s795)) (wrSt (.str t) ls [] (.cell none) []) k =
   ("str" = "str" ∧ ifT (!Fast.sEq t "") (("l" : Str).length + t.length ≤ sizeLine ∧ k (.ret (.str ("l" ++ t))) (wrSt (.str t) ls [] (.cell none) [])) (k (.ret (.str "")) (wrSt (.str t) ls [] (.cell none) []))) := by
  kernel_rfl
theorem wr_node (P : Params) (d n : Nat) (rf : List SV → St → Kt → Prop) (ds : List PyData) (ls : List SV) (k : Kt) : ev (cfWr P d rf) (n + 200) ns795 (.sts (fBody s795)) (wrSt (.dat (.list ds)) ls [] (.cell none) []) k =
   ("str" = "str" ∧ ∃ y, idxP (ds.map svOf) 0 y ∧ ev (cfWr P d rf) (n + 198) ns795 (.sts ((fBody s795).drop 2)) (wrSt (.dat (.list ds)) ls [("kind", y)] (.cell none) []) k) := by
  kernel_rfl
noncomputable def lcW : Expr := aVal (stAt 2 (fBody s795))
noncomputable def cnW : List (Str × NameKind) := relab (lcSc lcW).names
noncomputable abbrev wrL0 (ls : List SV) (c : SO) : List SO := [.tab 746, .list ls, c, .cell (some (.obj 1))]
theorem wr_texts (P : Params) (d n : Nat) (rf : List SV → St → Kt → Prop) (ds : List PyData) (ls : List SV) (kd : Str) (k : Kt) : ev (cfWr P d rf) (n + 198) ns795 (.sts ((fBody s795).drop 2)) (wrSt (.dat (.list ds)) ls [("kind", .str kd)] (.cell none) []) k =
   compE (bindT cnW (lcTgt lcW)) none (fun st k => ev (cfWr P d rf) (n + 196) cnW (.ex (lcElt lcW)) st k) (.dat (.list (slD ds (some 1) none))) ((slD ds (some 1) none).map svOf) (.it true (.dat (.list (slD ds (some 1) none)))) 4 5 0 ((slD ds (some 1) none).map svOf)
     ⟨[("lines", .obj 3)], wrL0 ls (.cell none) ++ [.it true (.dat (.list (slD ds (some 1) none))) 0, .list []]⟩
     (fun stE => CompFin [("texts", .obj 2), ("lines", .obj 3), ("tree", .dat (.list ds)), ("lines", .obj 1), ("kind", .str kd)] 4 5 stE fun y st₁ => stT ns795 "texts" y st₁ fun st₂ => ev (cfWr P d rf) (n + 197) ns795 (.sts ((fBody s795).drop 3)) st₂ k) := by
  kernel_rfl
theorem wr_elt (P : Params) (d n : Nat) (rf : List SV → St → Kt → Prop) (x : SV) (ls : List SV) (c : SO) (l : List SO) (K : Kt) (D : St → Prop) : bindT cnW (lcTgt lcW) x ⟨[("lines", .obj 3)], .tab 746 :: .list ls :: c :: .cell (some (.obj 1)) :: l⟩ (fun st₁ => testE none st₁ fun c st₂ => ifT c (ev (cfWr P d rf) (n + 196) cnW (.ex (lcElt lcW)) st₂ K) (D st₂)) =
   callT (cfWr P d rf) (n + 195) (ev (cfWr P d rf) (n + 195)) 795 [x, .obj 1] ⟨[("lines", .obj 3), ("part", x)], .tab 746 :: .list ls :: c :: .cell (some (.obj 1)) :: l⟩ K := by
  kernel_rfl
noncomputable def ifH : Stmt := stAt 3 (fBody s795)
noncomputable def ifD : Stmt := stAt 4 (fBody s795)
noncomputable def ifS : Stmt := stAt 5 (fBody s795)
theorem wr_3 (P : Params) (d n : Nat) (rf : List SV → St → Kt → Prop) (t : SV) (ls : List SV) (c : SO) (kd : Str) (k : Kt) : ev (cfWr P d rf) (n + 197) ns795 (.sts ((fBody s795).drop 3)) (wrSt t ls [("kind", .str kd)] c []) k =
   ifT (Fast.sEq kd "h") (ev (cfWr P d rf) (n + 195) ns795 (.sts (ifBody ifH)) (wrSt t ls [("kind", .str kd)] c []) (thenT (fun st k => ev (cfWr P d rf) (n + 196) ns795 (.sts ((fBody s795).drop 4)) st k) k))
    (ifT (Fast.sEq kd "d") (ev (cfWr P d rf) (n + 194) ns795 (.sts (ifBody ifD)) (wrSt t ls [("kind", .str kd)] c []) (thenT (fun st k => ev (cfWr P d rf) (n + 195) ns795 (.sts ((fBody s795).drop 5)) st k) k))
     (ifT (Fast.sEq kd "s") (ev (cfWr P d rf) (n + 193) ns795 (.sts (ifBody ifS)) (wrSt t ls [("kind", .str kd)] c []) (thenT (fun st k => ev (cfWr P d rf) (n + 194) ns795 (.sts ((fBody s795).drop 6)) st k) k))
       (ev (cfWr P d rf) (n + 193) ns795 (.sts (ifEls ifS)) (wrSt t ls [("kind", .str kd)] c []) (thenT (fun st k => ev (cfWr P d rf) (n + 194) ns795 (.sts ((fBody s795).drop 6)) st k) k)))) := by
  kernel_rfl
noncomputable abbrev wrLoc (t : SV) (kd : Str) : List (Str × SV) := [("texts", .obj 2), ("lines", .obj 3), ("tree", t), ("lines", .obj 1), ("kind", .str kd)]
noncomputable abbrev wrC (ds : List PyData) : SO := .cell (some (.dat (.list ds)))
noncomputable def lcH : Expr := binR (arg0 (rVal (stAt 0 (ifBody ifH))))
noncomputable def cnHh : List (Str × NameKind) := relab (lcSc lcH).names
noncomputable def lcD : Expr := binR (arg0 (rVal (stAt 0 (ifBody ifD))))
noncomputable def cnD : List (Str × NameKind) := relab (lcSc lcD).names
noncomputable def lcE : Expr := binR (aVal (stAt 0 (ifEls ifS)))
noncomputable def cnE : List (Str × NameKind) := relab (lcSc lcE).names
noncomputable def joinRet (sep : Str) (k : Kt) (st : St) (v : SV) : Prop := listDat st v fun ds => ∃ ts : List Str, ds = ts.map .str ∧ JoinOk sep ts = true ∧ (Txt.join sep ts).length ≤ sizeLine ∧ k (.ret (.str (Txt.join sep ts))) st
noncomputable def addL (st : St) (a b : SV) (k : SV → St → Prop) : Prop := listDat st a fun ds => listDat st b fun es => ds.length + es.length ≤ sizeLine ∧ k (.dat (.list (ds ++ es))) st
theorem wr_h (P : Params) (d n : Nat) (rf : List SV → St → Kt → Prop) (t : SV) (ls : List SV) (ts : List PyData) (kd : Str) (k : Kt) : ev (cfWr P d rf) (n + 195) ns795 (.sts (ifBody ifH)) (wrSt t ls [("kind", .str kd)] (wrC ts) []) k =
   compE (bindT cnHh (lcTgt lcH)) none (fun st k => ev (cfWr P d rf) (n + 189) cnHh (.ex (lcElt lcH)) st k) (.dat (.list ts)) (ts.map svOf) (.it true (.dat (.list ts))) 5 6 0 (ts.map svOf)
     ⟨[], (wrL0 ls (wrC ts) ++ [.list [.str "h"]]) ++ [.it true (.dat (.list ts)) 0, .list []]⟩
     (fun stE => CompFin (wrLoc t kd) 5 6 stE fun v st₁ => addL st₁ (.obj 4) v fun z st₂ => joinRet ", " k st₂ z) := by
  kernel_rfl
theorem wr_d (P : Params) (d n : Nat) (rf : List SV → St → Kt → Prop) (t : SV) (ls : List SV) (ts : List PyData) (kd : Str) (k : Kt) : ev (cfWr P d rf) (n + 194) ns795 (.sts (ifBody ifD)) (wrSt t ls [("kind", .str kd)] (wrC ts) []) k =
   ((ts.map svOf).length ≤ sizeLine ∧ (0 : Int) ≤ (ts.map svOf).length ∧ (((ts.map svOf).length : Int)).toNat ≤ sizeLine ∧
   compE (bindT cnD (lcTgt lcD)) none (fun st k => ev (cfWr P d rf) (n + 188) cnD (.ex (lcElt lcD)) st k) (.obj 5) ((List.range (((ts.map svOf).length : Int)).toNat).map fun (j : Nat) => SV.int (j : Int)) (.itr (((ts.map svOf).length : Int)).toNat) 6 7 0 ((List.range (((ts.map svOf).length : Int)).toNat).map fun (j : Nat) => SV.int (j : Int))
     ⟨[("texts", .obj 2)], (wrL0 ls (wrC ts) ++ [.list [.str "d=d"], .rng (((ts.map svOf).length : Int)).toNat]) ++ [.itr (((ts.map svOf).length : Int)).toNat 0, .list []]⟩
     (fun stE => CompFin (wrLoc t kd) 6 7 stE fun v st₁ => addL st₁ (.obj 4) v fun z st₂ => joinRet ", " k st₂ z)) := by
  kernel_rfl
theorem wr_s (P : Params) (d n : Nat) (rf : List SV → St → Kt → Prop) (t : SV) (ls : List SV) (ts : List PyData) (kd : Str) (k : Kt) : ev (cfWr P d rf) (n + 193) ns795 (.sts (ifBody ifS)) (wrSt t ls [("kind", .str kd)] (wrC ts) []) k =
   (1 ≤ sizeLine ∧ 1 + ts.length ≤ sizeLine ∧ k .next ⟨wrLoc t kd ++ [(("words" : Str), .dat (.list (.str "s" :: ts)))], wrL0 ls (wrC ts) ++ [.list [.str "s"]]⟩) := by
  kernel_rfl
theorem wr_e (P : Params) (d n : Nat) (rf : List SV → St → Kt → Prop) (t : SV) (ls : List SV) (ts : List PyData) (kd : Str) (k : Kt) : ev (cfWr P d rf) (n + 193) ns795 (.sts (ifEls ifS)) (wrSt t ls [("kind", .str kd)] (wrC ts) []) k =
   ((ts.map svOf).length ≤ sizeLine ∧ (0 : Int) ≤ (ts.map svOf).length ∧ (((ts.map svOf).length : Int)).toNat ≤ sizeLine ∧
   compE (bindT cnE (lcTgt lcE)) none (fun st k => ev (cfWr P d rf) (n + 189) cnE (.ex (lcElt lcE)) st k) (.obj 5) ((List.range (((ts.map svOf).length : Int)).toNat).map fun (j : Nat) => SV.int (j : Int)) (.itr (((ts.map svOf).length : Int)).toNat) 6 7 0 ((List.range (((ts.map svOf).length : Int)).toNat).map fun (j : Nat) => SV.int (j : Int))
     ⟨[("texts", .obj 2)], (wrL0 ls (wrC ts) ++ [.list [.str "e=e"], .rng (((ts.map svOf).length : Int)).toNat]) ++ [.itr (((ts.map svOf).length : Int)).toNat 0, .list []]⟩
     (fun stE => CompFin (wrLoc t kd) 6 7 stE fun v st₁ => addL st₁ (.obj 4) v fun z st₂ => nxt k .next { st₂ with loc := put "words" z st₂.loc })) := by
  kernel_rfl
theorem wr_helt (P : Params) (d n : Nat) (rf : List SV → St → Kt → Prop) (x : Str) (l : List SO) (K : Kt) (D : St → Prop) : bindT cnHh (lcTgt lcH) (.str x) ⟨[], l⟩ (fun st₁ => testE none st₁ fun c st₂ => ifT c (ev (cfWr P d rf) (n + 189) cnHh (.ex (lcElt lcH)) st₂ K) (D st₂)) =
   (x.length ≤ 1000000 ∧ K (.v (.str (tx (markS x.cps.toList)))) ⟨[("text", .str x)], l⟩) := by
  kernel_rfl
noncomputable def strI (i : Int) : Str := Str.ofString (toString i)
theorem wr_delt (P : Params) (d n : Nat) (rf : List SV → St → Kt → Prop) (i : Int) (a b : SO) (ts : List PyData) (l : List SO) (K : Kt) (D : St → Prop) : bindT cnD (lcTgt lcD) (.int i) ⟨[("texts", .obj 2)], a :: b :: wrC ts :: l⟩ (fun st₁ => testE none st₁ fun c st₂ => ifT c (ev (cfWr P d rf) (n + 188) cnD (.ex (lcElt lcD)) st₂ K) (D st₂)) =
   (i.natAbs < 4611686018427387904 ∧ (strI i).length ≤ sizeLine ∧ (("k" : Str).length + (strI i).length ≤ sizeLine ∧ (("k" ++ strI i).length + ("=" : Str).length ≤ sizeLine ∧ ∃ y, idxP (ts.map svOf) i y ∧ markedF [y] ⟨[("texts", .obj 2), ("n", .int i)], a :: b :: wrC ts :: l⟩ (fun r st => match r with
     | .v y => addT (.str ("k" ++ strI i ++ "=")) y fun z => K (.v z) st
     | _ => False)))) := by
  kernel_rfl
noncomputable def addV (st : St) (x y : SV) (k : SV → Prop) : Prop := match isListy x with
 | true => listDat st x fun ds => listDat st y fun es => ds.length + es.length ≤ sizeLine ∧ k (.dat (.list (ds ++ es)))
 | false => addT x y k
theorem wr_eelt (P : Params) (d n : Nat) (rf : List SV → St → Kt → Prop) (i : Int) (a b : SO) (ts : List PyData) (l : List SO) (K : Kt) (D : St → Prop) : bindT cnE (lcTgt lcE) (.int i) ⟨[("texts", .obj 2)], a :: b :: wrC ts :: l⟩ (fun st₁ => testE none st₁ fun c st₂ => ifT c (ev (cfWr P d rf) (n + 189) cnE (.ex (lcElt lcE)) st₂ K) (D st₂)) =
   (i.natAbs < 4611686018427387904 ∧ (strI i).length ≤ sizeLine ∧ (("k" : Str).length + (strI i).length ≤ sizeLine ∧ (("k" ++ strI i).length + ("=\"" : Str).length ≤ sizeLine ∧ ∃ y, idxP (ts.map svOf) i y ∧ addT (.str ("k" ++ strI i ++ "=\"")) y fun z =>
     addV ⟨[("texts", .obj 2), ("n", .int i)], a :: b :: wrC ts :: l⟩ z (.str "\"") fun z => K (.v z) ⟨[("texts", .obj 2), ("n", .int i)], a :: b :: wrC ts :: l⟩))) := by
  kernel_rfl
theorem wr_end (P : Params) (d n : Nat) (rf : List SV → St → Kt → Prop) (t : SV) (kd : Str) (ws : PyData) (led : List SO) (k : Kt) : ev (cfWr P d rf) (n + 194) ns795 (.sts ((fBody s795).drop 6)) ⟨wrLoc t kd ++ [(("words" : Str), .dat ws)], led⟩ k =
   joinF [.dat ws] ⟨wrLoc t kd ++ [(("words" : Str), .dat ws)], led⟩ (fun r st₁ => match r with
     | .v y => ev (cfWr P d rf) (n + 193) ns795 (.sts ((fBody s795).drop 7)) { st₁ with loc := put "line" y st₁.loc } k
     | _ => False) := by
  kernel_rfl
theorem wr_fin (P : Params) (d n : Nat) (rf : List SV → St → Kt → Prop) (t : SV) (kd : Str) (ws : PyData) (line : SV) (ls : List SV) (c : SO) (l : List SO) (k : Kt) : ev (cfWr P d rf) (n + 193) ns795 (.sts ((fBody s795).drop 7)) ⟨wrLoc t kd ++ [(("words" : Str), .dat ws), ("line", line)], .tab 746 :: .list ls :: c :: .cell (some (.obj 1)) :: l⟩ k =
   (ls.length ≤ sizeLine ∧ k (.ret line) ⟨wrLoc t kd ++ [(("words" : Str), .dat ws), ("line", line)], .tab 746 :: .list (ls ++ [.obj (.tab 746 :: .list ls :: c :: .cell (some (.obj 1)) :: l).length]) :: c :: .cell (some (.obj 1)) :: (l ++ [.tup [.dat ws, line]])⟩) := by
  kernel_rfl
noncomputable abbrev Ln := List (List Nat) × List Nat
noncomputable def lineD (l : Ln) : PyData := .tuple [.list (l.1.map fun x => .str (tx x)), .str (tx l.2)]
noncomputable def strsD (l : List (List Nat)) : List PyData := l.map fun x => .str (tx x)
noncomputable def keyed (f : List Nat → List Nat) (ts : List (List Nat)) : List (List Nat) := (List.range ts.length).map fun i => 107 :: (48 + i) :: 61 :: f (ts.getD i [])
noncomputable def quo (t : List Nat) : List Nat := 34 :: (t ++ [34])
noncomputable def leafT : PyData → List Nat
 | .str s => if s.cps.toList = [] then [] else 108 :: s.cps.toList
 | _ => []
noncomputable def wr : Nat → PyData → List Nat × List Ln
 | 0, d => (leafT d, [])
 | m + 1, d => match d with
  | .list (.str k :: kids) =>
   if Fast.sEq k "h" then (joinL [44, 32] ([104] :: (kids.map fun x => (wr m x).1).map markS), kids.flatMap fun x => (wr m x).2)
   else if Fast.sEq k "d" then (joinL [44, 32] ([100, 61, 100] :: keyed markS (kids.map fun x => (wr m x).1)), kids.flatMap fun x => (wr m x).2)
   else if Fast.sEq k "s" then (lineS ([115] :: kids.map fun x => (wr m x).1), (kids.flatMap fun x => (wr m x).2) ++ [([115] :: kids.map fun x => (wr m x).1, lineS ([115] :: kids.map fun x => (wr m x).1))])
   else (lineS ([101, 61, 101] :: keyed quo (kids.map fun x => (wr m x).1)), (kids.flatMap fun x => (wr m x).2) ++ [([101, 61, 101] :: keyed quo (kids.map fun x => (wr m x).1), lineS ([101, 61, 101] :: keyed quo (kids.map fun x => (wr m x).1)))])
  | d => (leafT d, [])
theorem lineS_joinL : ∀ ws : List (List Nat), lineS ws = joinL [32] (ws.map wordS)
 | [] => rfl
 | [x] => rfl
 | x :: y :: r => by
  show wordS x ++ 32 :: lineS (y :: r) = wordS x ++ ([32] ++ joinL [32] ((y :: r).map wordS))
  rw [lineS_joinL (y :: r)]; rfl
theorem wordS_len (x : List Nat) : (wordS x).length ≤ 5 * x.length + 2 := by
 unfold wordS
 split
 ·lia
 ·have := repL_len 39 qm 5 (by decide) (by decide) x
  simp only [List.length_cons, List.length_append, List.length_nil]
  lia
theorem markS_len (x : List Nat) : (markS x).length ≤ 2 * x.length + 2 := by
 have := escS_len x
 unfold markS
 simp only [List.length_cons, List.length_append, List.length_nil]
 lia
theorem sum_le (f : List Nat → Nat) (B : Nat) : ∀ l : List (List Nat), (∀ x ∈ l, f x ≤ B) → (l.map f).sum ≤ l.length * B
 | [], _ => Nat.zero_le _
 | x :: r, h => by
  have h1 := h x (.head _)
  have h2 := sum_le f B r fun y hy => h y (.tail _ hy)
  rw [List.map_cons, List.sum_cons, List.length_cons, Nat.add_mul]
  lia
theorem keyed_len (f : List Nat → List Nat) (ts : List (List Nat)) : (keyed f ts).length = ts.length := by simp [keyed]
theorem keyed_mem {f : List Nat → List Nat} {ts : List (List Nat)} {x : List Nat} (h : x ∈ keyed f ts) : ∃ i t, i < ts.length ∧ t ∈ ts ∧ x = 107 :: (48 + i) :: 61 :: f t := by
 unfold keyed at h
 obtain ⟨i, hi, rfl⟩ := List.mem_map.mp h
 rw [List.mem_range] at hi
 refine ⟨i, ts[i], hi, List.getElem_mem hi, ?_⟩
 have : ts.getD i [] = ts[i] := by simp [hi]
 rw [this]
theorem strI_small {i : Nat} (h : i < 10) : strI (i : Int) = tx [48 + i] := by
 have key : ∀ n : Fin 10, strI (n.1 : Int) = tx [48 + n.1] := by decide +kernel
 exact key ⟨i, h⟩
theorem joinRet_of (l : List (List Nat)) {k : Kt} {st : St} (hl : (l.map List.length).sum + l.length * 2 ≤ 10000000) (hk : k (.ret (.str (tx (joinL [44, 32] l)))) st) : joinRet ", " k st (.dat (.list (strsD l))) := by
 have e : (", " : Str) = tx [44, 32] := by rfl
 have hj : Txt.join ", " (l.map tx) = tx (joinL [44, 32] l) := by rw [txjoin, e, join_tx]
 refine ⟨l.map tx, by unfold strsD; rw [List.map_map]; rfl, joinOk_of ?_, ?_, ?_⟩
 ·rw [lens_tx, List.length_map]
  have : (", " : Str).length = 2 := by rfl
  rw [this]; lia
 ·rw [hj, tx_len, sizeLine_eq]
  have := joinL_len [44, 32] l
  rw [show ([44, 32] : List Nat).length = 2 from rfl] at this
  lia
 ·rw [hj]; exact hk
theorem tx_toList (l : List Nat) : (tx l).cps.toList = l := by simp [tx]
theorem idx_at {xs : List SV} {i : Nat} {x : SV} (h : xs[i]? = some x) (hl : xs.length ≤ 1000000) : idxP xs (i : Int) x := by
 have hi : i < xs.length := (List.getElem?_eq_some_iff.mp h).1
 refine ⟨i, ?_, h, by lia, by lia⟩
 unfold seqIndex?
 simp
 lia
theorem sosW {n : Nat} {led : List SO} (lsD : List PyData) (c : SO) (hc : SoT n led c c) (hn : 2 ≤ n) : SosT n led (wrL0 (lsD.map svOf) c) (wrL0 (lsD.map svOf) c) :=
 .cons .tab (.cons (.list (svsT_svOf _ _ _)) (.cons hc (.cons (.cell (.keep (by lia))) .nil)))
theorem okF_wrLoc {n : Nat} (ds : List PyData) (kd : Str) (h : 4 ≤ n) : okF n (wrLoc (.dat (.list ds)) kd) := ⟨by show 2 < n; lia, by show 3 < n; lia, trivial, by show 1 < n; lia, trivial, trivial⟩
theorem strsD_get (ts : List (List Nat)) (i : Nat) : ((strsD ts).map svOf)[i]? = (ts[i]?).map fun t => SV.str (tx t) := by
 unfold strsD
 rw [List.map_map, List.getElem?_map]; rfl
theorem strsD_len (ts : List (List Nat)) : (strsD ts).length = ts.length := by simp [strsD]
theorem strsD_map_len (ts : List (List Nat)) : ((strsD ts).map svOf).length = ts.length := by simp [strsD]
theorem filterMap_signs2 {α β : Type} (l : List α) (f : α → β) : (List.range l.length).filterMap (fun i => (l[i]?).map f) = l.map f := by
 induction l with
 | nil => rfl
 | cons c r ih =>
  rw [List.length_cons, List.range_succ_eq_map, List.filterMap_cons, List.filterMap_map]
  simp only [List.getElem?_cons_zero, Option.map_some, List.map_cons]
  congr 1
theorem fm_congr {α β : Type} {f g : α → Option β} : ∀ {l : List α}, (∀ x ∈ l, f x = g x) → l.filterMap f = l.filterMap g
 | [], _ => rfl
 | x :: r, h => by
  rw [List.filterMap_cons, List.filterMap_cons, h x (.head _), fm_congr fun y hy => h y (.tail _ hy)]
theorem range_map (ts : List (List Nat)) (f : Nat → List Nat → PyData) : (List.range ts.length).filterMap (fun i => (ts[i]?).map (f i)) = (List.range ts.length).map fun i => f i (ts.getD i []) := by
 rw [← List.filterMap_eq_map]
 refine fm_congr fun i hi => ?_
 rw [List.mem_range] at hi
 rw [List.getElem?_eq_getElem hi]
 simp [hi]
theorem filterMap_signs' (f : List Nat → List Nat) (ts : List (List Nat)) : (List.range ts.length).filterMap (fun i => (ts[i]?).map fun t => PyData.str (tx (f t))) = strsD (ts.map f) := by
 rw [filterMap_signs2]
 unfold strsD; rw [List.map_map]; rfl
theorem keyed_strs (f : List Nat → List Nat) (ts : List (List Nat)) : (List.range ts.length).filterMap (fun i => (ts[i]?).map fun t => PyData.str (tx (107 :: (48 + i) :: 61 :: f t))) = strsD (keyed f ts) := by
 rw [range_map ts fun i t => PyData.str (tx (107 :: (48 + i) :: 61 :: f t))]
 unfold strsD keyed
 rw [List.map_map]; rfl
section
variable {P : Params} {d n : Nat} {rf : List SV → St → Kt → Prop} {ds lsD : List PyData} {ts : List (List Nat)} {kd : Str} {k : Kt}
theorem addL_of {l0 : Str} {loc : List (Str × SV)} {l : List SO} {es : List (List Nat)} {k : SV → St → Prop} (e : List Nat) (he : l0 = tx e) (hl : es.length ≤ 1000) (hs : l[4]? = some (.list [.str l0])) (hk : k (.dat (.list (strsD (e :: es)))) ⟨loc, l⟩) : addL ⟨loc, l⟩ (.obj 4) (.dat (.list (strsD es))) k := by
 unfold addL listDat
 dsimp only
 rw [hs]
 refine ⟨by rw [sizeLine_eq]; show 1 ≤ _; lia, ?_⟩
 refine ⟨by rw [strsD_len, sizeLine_eq]; show 1 + _ ≤ _; lia, ?_⟩
 subst he
 exact hk
theorem wr_h_ok (hn : ts.length ≤ 10) (hb : ∀ t ∈ ts, t.length ≤ 100000) (hk : k (.ret (.str (tx (joinL [44, 32] ([104] :: ts.map markS))))) ⟨wrLoc (.dat (.list ds)) kd, wrL0 (lsD.map svOf) (wrC (strsD ts)) ++ [.list [.str "h"]]⟩) :
  ev (cfWr P d rf) (n + 195) ns795 (.sts (ifBody ifH)) (wrSt (.dat (.list ds)) (lsD.map svOf) [("kind", .str kd)] (wrC (strsD ts)) []) k := by
 rw [wr_h]
 have key := comp_gen (bnd := bindT cnHh (lcTgt lcH)) (test := none) (elt := fun st k => ev (cfWr P d rf) (n + 189) cnHh (.ex (lcElt lcH)) st k) (src := .dat (.list (strsD ts))) (all := (strsD ts).map svOf) (slot := .it true (.dat (.list (strsD ts)))) (fl := []) (pre := wrL0 (lsD.map svOf) (wrC (strsD ts)) ++ [.list [.str "h"]])
  (wrLoc (.dat (.list ds)) kd) (fun v st₁ => addL st₁ (.obj 4) v fun z st₂ => joinRet ", " k st₂ z) (fun i => (ts[i]?).map fun t => PyData.str (tx (markS t)))
  (fun n led h => sosT_app (sosW lsD _ (.cell (.same trivial)) (by have : (5 : Nat) ≤ n := h; lia)) (.cons (.list (.cons (.same (x := .str "h") trivial) .nil)) .nil)) trivial (okF_wrLoc ds kd (by show 4 ≤ 5; lia)) (fun _ _ _ _ => .it (.same trivial)) (fun a b => rfl)
  (by rw [strsD_map_len, sizeLine_eq]; lia) (fun i x zs K Dd hx hK' hD => ?_) ?_
 ·exact key
 ·rw [strsD_get, Option.map_eq_some_iff] at hx
  obtain ⟨t, ht, rfl⟩ := hx
  have hm := List.mem_of_getElem? ht
  show bindT cnHh (lcTgt lcH) (.str (tx t)) ⟨[], _⟩ _
  rw [wr_helt]
  refine ⟨by rw [tx_len]; have := hb t hm; lia, ?_⟩
  have hs := hK' (PyData.str (tx (markS t))) (by rw [ht]; rfl) [("text", .str (tx t))] []
  rw [tx_toList]
  exact hs
 ·rw [strsD_map_len, filterMap_signs']
  refine addL_of (es := ts.map markS) [104] (by rfl) (by rw [List.length_map]; lia) rfl ?_
  refine joinRet_of _ ?_ hk
  have h1 := sum_le List.length 200002 (ts.map markS) fun x hx => by
   obtain ⟨t, ht, rfl⟩ := List.mem_map.mp hx
   have := markS_len t; have := hb t ht; lia
  rw [List.length_map] at h1
  simp only [List.map_cons, List.sum_cons, List.length_cons, List.length_map, List.length_nil] at h1 ⊢
  have : ts.length * 200002 ≤ 10 * 200002 := Nat.mul_le_mul_right _ hn
  lia
theorem wr_d_ok (hn : ts.length ≤ 10) (hb : ∀ t ∈ ts, t.length ≤ 100000) (hk : ∀ l, k (.ret (.str (tx (joinL [44, 32] ([100, 61, 100] :: keyed markS ts))))) ⟨wrLoc (.dat (.list ds)) kd, wrL0 (lsD.map svOf) (wrC (strsD ts)) ++ l⟩) :
  ev (cfWr P d rf) (n + 194) ns795 (.sts (ifBody ifD)) (wrSt (.dat (.list ds)) (lsD.map svOf) [("kind", .str kd)] (wrC (strsD ts)) []) k := by
 rw [wr_d]
 have eN : (((strsD ts).map svOf).length : Int).toNat = ts.length := by rw [strsD_map_len]; rfl
 refine ⟨by rw [strsD_map_len, sizeLine_eq]; lia, by lia, by rw [eN, sizeLine_eq]; lia, ?_⟩
 rw [eN]
 have key := comp_gen (bnd := bindT cnD (lcTgt lcD)) (test := none) (elt := fun st k => ev (cfWr P d rf) (n + 188) cnD (.ex (lcElt lcD)) st k) (src := .obj 5) (all := (List.range ts.length).map fun (j : Nat) => SV.int (j : Int)) (slot := .itr ts.length) (fl := [("texts", .obj 2)]) (pre := wrL0 (lsD.map svOf) (wrC (strsD ts)) ++ [.list [.str "d=d"], .rng ts.length])
  (wrLoc (.dat (.list ds)) kd) (fun v st₁ => addL st₁ (.obj 4) v fun z st₂ => joinRet ", " k st₂ z) (fun i => (ts[i]?).map fun t => PyData.str (tx (107 :: (48 + i) :: 61 :: markS t)))
  (fun n led h => sosT_app (sosW lsD _ (.cell (.same trivial)) (by have : (6 : Nat) ≤ n := h; lia)) (.cons (.list (.cons (.same (x := .str "d=d") trivial) .nil)) (.cons .rng .nil))) ⟨by show 2 < 6; lia, trivial⟩ (okF_wrLoc ds kd (by show 4 ≤ 6; lia)) (fun _ _ _ _ => .itr) (fun a b => rfl)
  (by rw [List.length_map, List.length_range, sizeLine_eq]; lia) (fun i x zs K Dd hx hK' hD => ?_) ?_
 ·exact key
 ·rw [List.getElem?_map, Option.map_eq_some_iff] at hx
  obtain ⟨j, hj, rfl⟩ := hx
  obtain ⟨hj1, hj2⟩ := List.getElem?_eq_some_iff.mp hj
  rw [List.getElem_range] at hj2
  rw [List.length_range] at hj1
  subst hj2
  have hi : ts[i]? = some ts[i] := List.getElem?_eq_getElem hj1
  have hm : ts[i] ∈ ts := List.getElem_mem hj1
  have hbi := hb _ hm
  show bindT cnD (lcTgt lcD) (.int i) ⟨[("texts", .obj 2)], .tab 746 :: .list (lsD.map svOf) :: wrC (strsD ts) :: _⟩ _
  rw [wr_delt, strI_small (by lia : i < 10)]
  have e1 : ("k" : Str) = tx [107] := by rfl
  have e2 : ("=" : Str) = tx [61] := by rfl
  rw [e1, e2, tx_append, tx_append]
  refine ⟨by lia, by rw [tx_len, sizeLine_eq]; show 1 ≤ _; lia, by rw [tx_len, tx_len, sizeLine_eq]; show 1 + 1 ≤ _; lia, by rw [tx_len, tx_len, sizeLine_eq]; show 2 + 1 ≤ _; lia, .str (tx ts[i]), idx_at (by rw [strsD_get, hi]; rfl) (by rw [strsD_map_len]; lia), ?_⟩
  refine ⟨by rw [tx_len]; lia, ?_⟩
  rw [tx_toList]
  have hml := markS_len ts[i]
  refine ⟨by rw [tx_len, tx_len, sizeLine_eq]; show 3 + _ ≤ _; lia, ?_⟩
  rw [tx_append]
  exact hK' (PyData.str (tx (107 :: (48 + i) :: 61 :: markS ts[i]))) (by rw [hi]; rfl) [("n", .int i)] []
 ·rw [List.length_map, List.length_range, keyed_strs]
  refine addL_of (es := keyed markS ts) [100, 61, 100] (by rfl) (by rw [keyed_len]; lia) rfl ?_
  refine joinRet_of _ ?_ (hk _)
  have h1 := sum_le List.length 200010 (keyed markS ts) fun x hx => by
   obtain ⟨i, t, hi, ht, rfl⟩ := keyed_mem hx
   have := markS_len t; have := hb t ht
   simp only [List.length_cons]; lia
  rw [keyed_len] at h1
  simp only [List.map_cons, List.sum_cons, List.length_cons, keyed_len, List.length_nil] at h1 ⊢
  have : ts.length * 200010 ≤ 10 * 200010 := Nat.mul_le_mul_right _ hn
  lia
theorem wr_s_ok (hn : ts.length ≤ 10) (hk : ∀ l, k .next ⟨wrLoc (.dat (.list ds)) kd ++ [(("words" : Str), .dat (.list (strsD ([115] :: ts))))], wrL0 (lsD.map svOf) (wrC (strsD ts)) ++ l⟩) :
  ev (cfWr P d rf) (n + 193) ns795 (.sts (ifBody ifS)) (wrSt (.dat (.list ds)) (lsD.map svOf) [("kind", .str kd)] (wrC (strsD ts)) []) k := by
 rw [wr_s]
 exact ⟨by rw [sizeLine_eq]; lia, by rw [strsD_len, sizeLine_eq]; lia, hk _⟩
theorem wr_e_ok (hn : ts.length ≤ 10) (hb : ∀ t ∈ ts, t.length ≤ 100000) (hk : ∀ l, k .next ⟨wrLoc (.dat (.list ds)) kd ++ [(("words" : Str), .dat (.list (strsD ([101, 61, 101] :: keyed quo ts))))], wrL0 (lsD.map svOf) (wrC (strsD ts)) ++ l⟩) :
  ev (cfWr P d rf) (n + 193) ns795 (.sts (ifEls ifS)) (wrSt (.dat (.list ds)) (lsD.map svOf) [("kind", .str kd)] (wrC (strsD ts)) []) k := by
 rw [wr_e]
 have eN : (((strsD ts).map svOf).length : Int).toNat = ts.length := by rw [strsD_map_len]; rfl
 refine ⟨by rw [strsD_map_len, sizeLine_eq]; lia, by lia, by rw [eN, sizeLine_eq]; lia, ?_⟩
 rw [eN]
 have key := comp_gen (bnd := bindT cnE (lcTgt lcE)) (test := none) (elt := fun st k => ev (cfWr P d rf) (n + 189) cnE (.ex (lcElt lcE)) st k) (src := .obj 5) (all := (List.range ts.length).map fun (j : Nat) => SV.int (j : Int)) (slot := .itr ts.length) (fl := [("texts", .obj 2)]) (pre := wrL0 (lsD.map svOf) (wrC (strsD ts)) ++ [.list [.str "e=e"], .rng ts.length])
  (wrLoc (.dat (.list ds)) kd) (fun v st₁ => addL st₁ (.obj 4) v fun z st₂ => nxt k .next { st₂ with loc := put "words" z st₂.loc }) (fun i => (ts[i]?).map fun t => PyData.str (tx (107 :: (48 + i) :: 61 :: quo t)))
  (fun n led h => sosT_app (sosW lsD _ (.cell (.same trivial)) (by have : (6 : Nat) ≤ n := h; lia)) (.cons (.list (.cons (.same (x := .str "e=e") trivial) .nil)) (.cons .rng .nil))) ⟨by show 2 < 6; lia, trivial⟩ (okF_wrLoc ds kd (by show 4 ≤ 6; lia)) (fun _ _ _ _ => .itr) (fun a b => rfl)
  (by rw [List.length_map, List.length_range, sizeLine_eq]; lia) (fun i x zs K Dd hx hK' hD => ?_) ?_
 ·exact key
 ·rw [List.getElem?_map, Option.map_eq_some_iff] at hx
  obtain ⟨j, hj, rfl⟩ := hx
  obtain ⟨hj1, hj2⟩ := List.getElem?_eq_some_iff.mp hj
  rw [List.getElem_range] at hj2
  rw [List.length_range] at hj1
  subst hj2
  have hi : ts[i]? = some ts[i] := List.getElem?_eq_getElem hj1
  have hm : ts[i] ∈ ts := List.getElem_mem hj1
  have hbi := hb _ hm
  show bindT cnE (lcTgt lcE) (.int i) ⟨[("texts", .obj 2)], .tab 746 :: .list (lsD.map svOf) :: wrC (strsD ts) :: _⟩ _
  rw [wr_eelt, strI_small (by lia : i < 10)]
  have e1 : ("k" : Str) = tx [107] := by rfl
  have e2 : ("=\"" : Str) = tx [61, 34] := by rfl
  have e3 : ("\"" : Str) = tx [34] := by rfl
  rw [e1, e2, e3, tx_append, tx_append]
  refine ⟨by lia, by rw [tx_len, sizeLine_eq]; show 1 ≤ _; lia, by rw [tx_len, tx_len, sizeLine_eq]; show 1 + 1 ≤ _; lia, by rw [tx_len, tx_len, sizeLine_eq]; show 2 + 2 ≤ _; lia, .str (tx ts[i]), idx_at (by rw [strsD_get, hi]; rfl) (by rw [strsD_map_len]; lia), ?_⟩
  refine ⟨by rw [tx_len, tx_len, sizeLine_eq]; show 4 + _ ≤ _; lia, ?_⟩
  rw [tx_append]
  refine ⟨by rw [tx_len, tx_len, sizeLine_eq, List.length_append]; show 4 + _ + 1 ≤ _; lia, ?_⟩
  rw [tx_append]
  have hs := hK' (PyData.str (tx (107 :: (48 + i) :: 61 :: quo ts[i]))) (by rw [hi]; rfl) [("n", .int i)] []
  have e4 : [107] ++ [48 + i] ++ [61, 34] ++ ts[i] ++ [34] = 107 :: (48 + i) :: 61 :: quo ts[i] := by simp [quo]
  rw [e4]
  exact hs
 ·rw [List.length_map, List.length_range, keyed_strs]
  exact addL_of (es := keyed quo ts) [101, 61, 101] (by rfl) (by rw [keyed_len]; lia) rfl (hk _)
end
noncomputable def LeafOk (d : PyData) : Prop := ∃ t : List Nat, d = .str (tx t) ∧ t.length ≤ 2 ∧ ∀ c ∈ t, c ∈ alpha.cps.toList
noncomputable def TreeOk : Nat → PyData → Prop
 | 0, d => LeafOk d
 | m + 1, d => LeafOk d ∨ ∃ k kids, d = .list (.str k :: kids) ∧ (k = "s" ∨ k = "h" ∨ k = "e" ∨ k = "d") ∧ kids.length ≤ 6 ∧ ∀ x ∈ kids, TreeOk m x
noncomputable def bndT : Nat → Nat
 | 0 => 3
 | m + 1 => 30 * bndT m + 200
theorem bndT_mono : ∀ {m n : Nat}, m ≤ n → bndT m ≤ bndT n
 | m, 0, h => by rw [Nat.le_zero.mp h]; exact Nat.le_refl _
 | m, n + 1, h => by
  rcases Nat.lt_or_ge m (n + 1) with q | q
  ·have := bndT_mono (Nat.le_of_lt_succ q)
   show bndT m ≤ 30 * bndT n + 200
   lia
  ·rw [Nat.le_antisymm h q]; exact Nat.le_refl _
theorem wr_leafEq (m : Nat) {d : PyData} {s : Str} (h : d = .str s) : wr m d = (leafT d, []) := by
 subst h
 cases m <;> rfl
theorem leafT_len {d : PyData} (h : LeafOk d) : (leafT d).length ≤ 3 := by
 obtain ⟨t, rfl, h, _⟩ := h
 show (if (tx t).cps.toList = [] then [] else 108 :: (tx t).cps.toList).length ≤ 3
 rw [tx_toList]
 split
 ·exact Nat.zero_le _
 ·rw [List.length_cons]; lia
theorem wr_list (m : Nat) (k : Str) (kids : List PyData) : wr (m + 1) (.list (.str k :: kids)) =
   (if Fast.sEq k "h" then (joinL [44, 32] ([104] :: (kids.map fun x => (wr m x).1).map markS), kids.flatMap fun x => (wr m x).2)
      else if Fast.sEq k "d" then (joinL [44, 32] ([100, 61, 100] :: keyed markS (kids.map fun x => (wr m x).1)), kids.flatMap fun x => (wr m x).2)
      else if Fast.sEq k "s" then (lineS ([115] :: kids.map fun x => (wr m x).1), (kids.flatMap fun x => (wr m x).2) ++ [([115] :: kids.map fun x => (wr m x).1, lineS ([115] :: kids.map fun x => (wr m x).1))])
      else (lineS ([101, 61, 101] :: keyed quo (kids.map fun x => (wr m x).1)), (kids.flatMap fun x => (wr m x).2) ++ [([101, 61, 101] :: keyed quo (kids.map fun x => (wr m x).1), lineS ([101, 61, 101] :: keyed quo (kids.map fun x => (wr m x).1)))])) := rfl
theorem lineS_len (B : Nat) (ws : List (List Nat)) (h : ∀ x ∈ ws, x.length ≤ B) : (lineS ws).length ≤ ws.length * (5 * B + 2) + ws.length := by
 rw [lineS_joinL]
 have h1 := joinL_len [32] (ws.map wordS)
 have h2 := sum_le (fun x => (wordS x).length) (5 * B + 2) ws fun x hx => by
  have := wordS_len x; have := h x hx; lia
 rw [List.map_map] at h1
 have e : List.length ∘ wordS = fun x => (wordS x).length := rfl
 rw [e, List.length_map] at h1
 have e2 : ([32] : List Nat).length = 1 := rfl
 rw [e2, Nat.mul_one] at h1
 lia
theorem wr_len : ∀ (m : Nat) {d : PyData}, TreeOk m d → (wr m d).1.length ≤ bndT m
 | 0, d, h => leafT_len h
 | m + 1, d, h => by
  rcases h with h | ⟨k, kids, rfl, hk, hn, hkids⟩
  ·obtain ⟨t, e, _⟩ := id h
   rw [wr_leafEq (m + 1) e]
   have := leafT_len h
   show (leafT d).length ≤ 30 * bndT m + 200
   lia
  ·have hb : ∀ t ∈ kids.map (fun x => (wr m x).1), t.length ≤ bndT m := fun t ht => by
    obtain ⟨x, hx, rfl⟩ := List.mem_map.mp ht
    exact wr_len m (hkids x hx)
   have hnt : (kids.map fun x => (wr m x).1).length ≤ 6 := by rw [List.length_map]; exact hn
   rw [wr_list]
   generalize kids.map (fun x => (wr m x).1) = ts at hb hnt
   show _ ≤ 30 * bndT m + 200
   generalize bndT m = B at hb
   have mul6 : ∀ a b : Nat, a ≤ 6 → a * b ≤ 6 * b := fun a b h => Nat.mul_le_mul_right _ h
   have mul7 : ∀ a b : Nat, a ≤ 7 → a * b ≤ 7 * b := fun a b h => Nat.mul_le_mul_right _ h
   split
   ·have h1 := joinL_len [44, 32] ([104] :: ts.map markS)
    have h2 := sum_le (fun t => (markS t).length) (2 * B + 2) ts fun x hx => by
     have := markS_len x; have := hb x hx; lia
    have h3 := mul6 _ (2 * B + 2) hnt
    have e : ((ts.map markS).map List.length) = ts.map fun t => (markS t).length := by rw [List.map_map]; rfl
    simp only [List.map_cons, List.sum_cons, List.length_cons, List.length_map, List.length_nil, e] at h1 ⊢
    lia
   ·split
    ·have h1 := joinL_len [44, 32] ([100, 61, 100] :: keyed markS ts)
     have h2 := sum_le List.length (2 * B + 5) (keyed markS ts) fun x hx => by
      obtain ⟨i, t, hi, ht, rfl⟩ := keyed_mem hx
      have := markS_len t; have := hb t ht
      simp only [List.length_cons]; lia
     rw [keyed_len] at h2
     have h3 := mul6 _ (2 * B + 5) hnt
     simp only [List.map_cons, List.sum_cons, List.length_cons, keyed_len, List.length_nil] at h1 ⊢
     lia
    ·split
     ·have h1 := lineS_len B (ts) hb
      show (lineS ([115] :: ts)).length ≤ _
      have h0 := lineS_joinL ([115] :: ts)
      have h2 := joinL_len [32] (([115] :: ts).map wordS)
      have h4 := sum_le (fun x => (wordS x).length) (5 * B + 2) ts fun x hx => by
       have := wordS_len x; have := hb x hx; lia
      have h3 := mul6 _ (5 * B + 2) hnt
      have e : ((ts.map wordS).map List.length) = ts.map fun x => (wordS x).length := by rw [List.map_map]; rfl
      have h5 := wordS_len [115]
      rw [h0]
      simp only [List.map_cons, List.sum_cons, List.length_cons, List.length_map, List.length_nil, e] at h2 h5 ⊢
      lia
     ·show (lineS ([101, 61, 101] :: keyed quo ts)).length ≤ _
      have h0 := lineS_joinL ([101, 61, 101] :: keyed quo ts)
      have h2 := joinL_len [32] (([101, 61, 101] :: keyed quo ts).map wordS)
      have h4 := sum_le (fun x => (wordS x).length) (5 * (B + 5) + 2) (keyed quo ts) fun x hx => by
       obtain ⟨i, t, hi, ht, rfl⟩ := keyed_mem hx
       have h6 := wordS_len (107 :: (48 + i) :: 61 :: quo t)
       have := hb t ht
       simp only [List.length_cons, quo, List.length_append, List.length_nil] at h6 ⊢
       lia
      rw [keyed_len] at h4
      have h3 := mul6 _ (5 * (B + 5) + 2) hnt
      have e : (((keyed quo ts).map wordS).map List.length) = (keyed quo ts).map fun x => (wordS x).length := by rw [List.map_map]; rfl
      have h5 := wordS_len [101, 61, 101]
      rw [h0]
      simp only [List.map_cons, List.sum_cons, List.length_cons, List.length_map, keyed_len, List.length_nil, e] at h2 h5 ⊢
      lia
noncomputable def wrF (m : Nat) (svs : List SV) (st : St) (k : Kt) : Prop := ∃ (dd : PyData) (lsD : List PyData) (rest : List SO), svs = [svOf dd, .obj 1] ∧ TreeOk m dd ∧ st.led = .tab 746 :: .list (lsD.map svOf) :: rest ∧ lsD.length + (wr m dd).2.length ≤ 100000 ∧
 k (.v (.str (tx (wr m dd).1))) { st with led := .tab 746 :: .list ((lsD ++ (wr m dd).2.map lineD).map svOf) :: rest }
noncomputable abbrev dW (m : Nat) : Nat := 205 + 20 * m
noncomputable def wrSp (m : Nat) : SpE := ⟨795, 2, dW m, wrF m⟩
theorem stT_texts (y : SV) (l1 : List (Str × SV)) (a b : SO) (c : Option SV) (r : List SO) (k : St → Prop) : stT ns795 "texts" y ⟨("texts", .obj 2) :: l1, a :: b :: .cell c :: r⟩ k = k ⟨("texts", .obj 2) :: l1, a :: b :: .cell (some y) :: r⟩ := by
 kernel_rfl
theorem callT_rec (P : Params) (d n : Nat) (rf : List SV → St → Kt → Prop) (evn : List (Str × NameKind) → Tk → St → Kt → Prop) (vs : List SV) (hv : vs.length = 2) (st : St) (k : Kt) (hd : d ≤ n) (h : rf vs st k) : callT (cfWr P d rf) n evn 795 vs st k := by
 unfold callT
 rw [hv]
 show (match Nat.ble d n with | true => rf vs st k | false => False)
 rw [Nat.ble_eq_true_of_le hd]
 exact h
theorem wr_loop (P : Params) (m n : Nat) (hn : dW m ≤ n + 195) (src : SV) (all : List SV) (slot : Nat → SO) (hsrc : ∀ st, srcT st src = some (all, slot)) (hslot : ∀ n led j, SoT n led (slot j) (slot j)) (kf : St → Prop) :
  ∀ (rest : List PyData) (j : Nat) (done : List (List Nat)) (lsD : List PyData), (∀ x ∈ rest, TreeOk m x) → done.length + rest.length ≤ 1000 → lsD.length + (rest.flatMap fun x => (wr m x).2).length ≤ 100000 →
   kf ⟨[("lines", .obj 3)], wrL0 ((lsD ++ (rest.flatMap fun x => (wr m x).2).map lineD).map svOf) (.cell none) ++ [.gone, .list ((strsD (done ++ rest.map fun x => (wr m x).1)).map svOf)]⟩ →
   compE (bindT cnW (lcTgt lcW)) none (fun st k => ev (cfWr P (dW m) (wrF m)) (n + 196) cnW (.ex (lcElt lcW)) st k) src all slot 4 5 j (rest.map svOf) ⟨[("lines", .obj 3)], wrL0 (lsD.map svOf) (.cell none) ++ [slot j, .list ((strsD done).map svOf)]⟩ kf := by
 intro rest
 induction rest with
 | nil =>
  intro j done lsD h1 h2 h3 hk
  refine ⟨rfl, hsrc _, ?_⟩
  have e1 : lsD ++ (([] : List PyData).flatMap fun x => (wr m x).2).map lineD = lsD := List.append_nil _
  have e2 : done ++ ([] : List PyData).map (fun x => (wr m x).1) = done := List.append_nil _
  rw [e1, e2] at hk
  exact hk
 | cons x r ih =>
  intro j done lsD h1 h2 h3 hk
  rw [List.length_cons] at h2
  rw [List.flatMap_cons, List.length_append] at h3
  refine ⟨rfl, hsrc _, ?_⟩
  show bindT cnW (lcTgt lcW) (svOf x) ⟨[("lines", .obj 3)], .tab 746 :: .list (lsD.map svOf) :: .cell none :: .cell (some (.obj 1)) :: [slot (j + 1), .list ((strsD done).map svOf)]⟩ _
  rw [wr_elt]
  refine callT_rec P (dW m) (n + 195) (wrF m) _ _ rfl _ _ hn ⟨x, lsD, _, rfl, h1 x (.head _), rfl, by lia, ?_⟩
  show appT 5 (.str (tx (wr m x).1)) ⟨[("lines", .obj 3), ("part", svOf x)], .tab 746 :: .list ((lsD ++ (wr m x).2.map lineD).map svOf) :: .cell none :: .cell (some (.obj 1)) :: [slot (j + 1), .list ((strsD done).map svOf)]⟩ _
  refine ⟨by rw [strsD_map_len, sizeLine_eq]; lia, ⟨[("lines", .obj 3)], wrL0 ((lsD ++ (wr m x).2.map lineD).map svOf) (.cell none) ++ [slot (j + 1), .list ((strsD (done ++ [(wr m x).1])).map svOf)]⟩, ?_, ?_⟩
  ·refine trimK (n := 6) (loc := [("lines", .obj 3)]) (more := [("part", svOf x)]) ⟨by show 3 < 6; lia, trivial⟩ ?_
   refine sosT_app (sosW _ _ .cell0 (by lia)) (.cons (hslot _ _ _) (.cons (.list ?_) .nil))
   have e : (strsD (done ++ [(wr m x).1])).map svOf = (strsD done).map svOf ++ [.str (tx (wr m x).1)] := by
    unfold strsD; rw [List.map_append, List.map_append]; rfl
   rw [e]
   exact svsT_app (svsT_svOf _ _ _) (.cons (.same trivial) .nil)
  ·refine ih (j + 1) _ _ (fun y hy => h1 y (.tail _ hy)) (by simp; lia) (by rw [List.length_append, List.length_map]; lia) ?_
   have e1 : lsD ++ (wr m x).2.map lineD ++ (r.flatMap fun x => (wr m x).2).map lineD = lsD ++ ((x :: r).flatMap fun x => (wr m x).2).map lineD := by
    rw [List.flatMap_cons, List.map_append, List.append_assoc]
   have e2 : done ++ [(wr m x).1] ++ r.map (fun x => (wr m x).1) = done ++ (x :: r).map fun x => (wr m x).1 := by
    rw [List.map_cons, List.append_assoc]; rfl
   rw [e1, e2]
   exact hk
theorem wr_leafBody (P : Params) (d n : Nat) (rf : List SV → St → Kt → Prop) {dd : PyData} (lsD : List PyData) (h : LeafOk dd) (k : Kt) (hk : ∀ loc, k (.ret (.str (tx (leafT dd)))) ⟨loc, wrL0 (lsD.map svOf) (.cell none)⟩) :
  ev (cfWr P d rf) (n + 200) ns795 (.sts (fBody s795)) (wrSt (svOf dd) (lsD.map svOf) [] (.cell none) []) k := by
 obtain ⟨t, rfl, ht, _⟩ := h
 show ev (cfWr P d rf) (n + 200) ns795 (.sts (fBody s795)) (wrSt (.str (tx t)) (lsD.map svOf) [] (.cell none) []) k
 rw [wr_leaf]
 refine ⟨rfl, ?_⟩
 have e0 : leafT (.str (tx t)) = if t = [] then [] else 108 :: t := by
  show (if (tx t).cps.toList = [] then [] else 108 :: (tx t).cps.toList) = _
  rw [tx_toList]
 rw [e0] at hk
 have e1 : ("l" : Str) = tx [108] := by rfl
 refine ifT_of (fun q => ?_) fun q => ?_
 ·have hne : t ≠ [] := fun e => by
   rw [e] at q; exact absurd q (by decide)
  rw [if_neg hne] at hk
  rw [e1, tx_append]
  exact ⟨by rw [tx_len, tx_len, sizeLine_eq]; show 1 + _ ≤ _; lia, hk _⟩
 ·have he : t = [] := by
   have q2 : Fast.sEq (tx t) "" = true := by simpa using q
   have := congrArg Str.length (sEq_true q2)
   rw [tx_len] at this
   exact List.eq_nil_of_length_eq_zero this
  rw [if_pos he] at hk
  exact hk _
theorem end_get {n : Nat} {l : List SO} (a b c d t : SO) (h : n ≤ l.length + 4) : (mask n (a :: b :: c :: d :: (l ++ [t])))[(a :: b :: c :: d :: l).length]? = some t := by
 rw [mask_get (by simp; omega)]
 have : a :: b :: c :: d :: (l ++ [t]) = (a :: b :: c :: d :: l) ++ [t] := rfl
 rw [this]
 simp
theorem svOf_lines (lsD new : List PyData) : (lsD ++ new).map svOf = lsD.map svOf ++ new.map svOf := List.map_append
theorem wr_lineEnd (P : Params) (d n : Nat) (rf : List SV → St → Kt → Prop) (ds tds lsD : List PyData) (kd : Str) (ws : List (List Nat)) (k : Kt) (hn : ws.length ≤ 10) (hb : ∀ t ∈ ws, t.length ≤ 100000) (hls : lsD.length ≤ 100000)
  (hk : ∀ loc led, SosT 2 led (led.take 2) [.tab 746, .list ((lsD ++ [lineD (ws, lineS ws)]).map svOf)] → k (.ret (.str (tx (lineS ws)))) ⟨loc, led⟩) (l : List SO) :
  ev (cfWr P d rf) (n + 194) ns795 (.sts ((fBody s795).drop 6)) ⟨wrLoc (.dat (.list ds)) kd ++ [(("words" : Str), .dat (.list (strsD ws)))], wrL0 (lsD.map svOf) (wrC tds) ++ l⟩ k := by
 rw [wr_end]
 have hj : Txt.join " " ((ws.map tx).map wordT) = tx (lineS ws) := by
  rw [txjoin, List.map_map]
  have : (wordT ∘ tx) = fun x => tx (wordS x) := by
   funext x
   show tx (wordS (tx x).cps.toList) = _
   rw [tx_toList]
  rw [this, join_lineS]
 have hll := lineS_len 100000 ws hb
 have hm : ws.length * (5 * 100000 + 2) ≤ 10 * (5 * 100000 + 2) := Nat.mul_le_mul_right _ hn
 refine ⟨rfl, ws.map tx, by unfold strsD; rw [List.map_map]; rfl, fun x hx => ?_, joinOk_of ?_, ?_, ?_⟩
 ·obtain ⟨t, ht, rfl⟩ := List.mem_map.mp hx
  rw [tx_len]; have := hb t ht; lia
 ·have h2 := sum_le (fun x => (wordS x).length) (5 * 100000 + 2) ws fun x hx => by
   have := wordS_len x; have := hb x hx; lia
  have e : ((ws.map tx).map wordT).map (·.length) = ws.map fun x => (wordS x).length := by
   rw [List.map_map, List.map_map]
   refine List.map_congr_left fun x _ => ?_
   show (tx (wordS (tx x).cps.toList)).length = _
   rw [tx_len, tx_toList]
  rw [e, List.length_map, List.length_map]
  have : (" " : Str).length = 1 := by rfl
  rw [this]
  lia
 ·rw [hj, tx_len, sizeLine_eq]; lia
 ·rw [hj]
  show ev (cfWr P d rf) (n + 193) ns795 (.sts ((fBody s795).drop 7)) ⟨wrLoc (.dat (.list ds)) kd ++ [(("words" : Str), .dat (.list (strsD ws))), ("line", .str (tx (lineS ws)))], .tab 746 :: .list (lsD.map svOf) :: wrC tds :: .cell (some (.obj 1)) :: l⟩ k
  rw [wr_fin]
  refine ⟨by rw [List.length_map, sizeLine_eq]; lia, hk _ _ ?_⟩
  refine .cons .tab (.cons (.list ?_) .nil)
  rw [svOf_lines]
  refine svsT_app (svsT_svOf _ _ _) (.cons ?_ .nil)
  refine .frz (d := lineD (ws, lineS ws)) (.tup (end_get _ _ _ _ _ (by lia)) (by rw [sizeLine_eq]; show 2 ≤ 16777216; decide) ?_)
  exact .cons (.dat _) (.cons (.str _) .nil)
theorem wr_nodeBody (P : Params) (m n : Nat) (hm : m ≤ 2) (hn : dW m ≤ n + 195) (kd : Str) (kids lsD : List PyData) (hkd : kd = "s" ∨ kd = "h" ∨ kd = "e" ∨ kd = "d") (hlen : kids.length ≤ 6) (hkids : ∀ x ∈ kids, TreeOk m x) (hls : lsD.length + (wr (m + 1) (.list (.str kd :: kids))).2.length ≤ 100000) (k : Kt)
  (hk : ∀ loc led, SosT 2 led (led.take 2) [.tab 746, .list ((lsD ++ (wr (m + 1) (.list (.str kd :: kids))).2.map lineD).map svOf)] → k (.ret (.str (tx (wr (m + 1) (.list (.str kd :: kids))).1))) ⟨loc, led⟩) :
  ev (cfWr P (dW m) (wrF m)) (n + 200) ns795 (.sts (fBody s795)) (wrSt (.dat (.list (.str kd :: kids))) (lsD.map svOf) [] (.cell none) []) k := by
 rw [wr_node]
 refine ⟨rfl, .str kd, idx_at (i := 0) rfl (by rw [List.length_map, List.length_cons]; lia), ?_⟩
 rw [wr_texts]
 have esl : slD (.str kd :: kids) (some 1) none = kids := by
  rw [show (1 : Int) = ((1 : Nat) : Int) from rfl, slD_drop]; rfl
 rw [esl]
 have e0 : lsD.length + (kids.flatMap fun x => (wr m x).2).length ≤ 100000 := by
  rw [wr_list] at hls
  split at hls
  ·exact hls
  ·split at hls
   ·exact hls
   ·split at hls <;> (dsimp only at hls; rw [List.length_append] at hls; lia)
 refine wr_loop P m n hn (.dat (.list kids)) (kids.map svOf) (.it true (.dat (.list kids))) (fun _ => rfl) (fun _ _ _ => .it (.same trivial)) _ kids 0 [] lsD hkids (by simp; lia) e0 ?_
 generalize hts : kids.map (fun x => (wr m x).1) = ts
 generalize hnew : (kids.flatMap fun x => (wr m x).2) = new at *
 have hb : ∀ t ∈ ts, t.length ≤ 90000 := fun t ht => by
  rw [← hts] at ht
  obtain ⟨x, hx, rfl⟩ := List.mem_map.mp ht
  have h1 := wr_len m (hkids x hx)
  have h2 := bndT_mono hm
  have : bndT 2 = 8900 := rfl
  lia
 have hb' : ∀ t ∈ ts, t.length ≤ 100000 := fun t ht => Nat.le_trans (hb t ht) (by decide)
 have hnt : ts.length ≤ 6 := by rw [← hts, List.length_map]; exact hlen
 rw [wr_list, hts, hnew] at hk
 rw [List.nil_append]
 generalize hl2 : lsD ++ new.map lineD = lsE at *
 have hlE : lsE.length ≤ 100000 := by rw [← hl2, List.length_append, List.length_map]; lia
 refine ⟨(strsD ts).map svOf, strsD ts, ⟨wrLoc (.dat (.list (.str kd :: kids))) kd, wrL0 (lsE.map svOf) (.cell none)⟩, rfl, frzs_svOf _, by rw [strsD_len, sizeLine_eq]; lia, ?_, ?_⟩
 ·have := trimK (n := 4) (loc := wrLoc (.dat (.list (.str kd :: kids))) kd) (more := []) (led := wrL0 (lsE.map svOf) (.cell none) ++ [.gone, .list ((strsD ts).map svOf)]) (led' := wrL0 (lsE.map svOf) (.cell none)) (okF_wrLoc _ kd (Nat.le_refl 4)) (sosW lsE _ .cell0 (by lia))
  rw [List.append_nil] at this
  exact this
 ·refine cast (stT_texts (.dat (.list (strsD ts))) _ _ _ none _ _).symm ?_
  show ev (cfWr P (dW m) (wrF m)) (n + 197) ns795 (.sts ((fBody s795).drop 3)) (wrSt (.dat (.list (.str kd :: kids))) (lsE.map svOf) [("kind", .str kd)] (wrC (strsD ts)) []) k
  rw [wr_3]
  have eL : ∀ x : Ln, lsD ++ (new ++ [x]).map lineD = lsE ++ [lineD x] := fun x => by
   rw [List.map_append, ← List.append_assoc, hl2]; rfl
  have sos2 : ∀ led, SosT 2 led [.tab 746, .list (lsE.map svOf)] [.tab 746, .list (lsE.map svOf)] := fun led => .cons .tab (.cons (.list (svsT_svOf _ _ _)) .nil)
  refine ifT_of (fun q => ?_) fun q => ?_
  ·rw [if_pos q] at hk
   refine wr_h_ok (by lia) hb' ?_
   show k (.ret _) _
   refine hk _ _ ?_
   rw [hl2]
   exact sos2 _
  ·rw [if_neg (by rw [q]; decide)] at hk
   refine ifT_of (fun q => ?_) fun q => ?_
   ·rw [if_pos q] at hk
    refine wr_d_ok (by lia) hb' fun l => ?_
    show k (.ret _) _
    refine hk _ _ ?_
    rw [hl2]
    exact sos2 _
   ·rw [if_neg (by rw [q]; decide)] at hk
    refine ifT_of (fun q => ?_) fun q => ?_
    ·rw [if_pos q] at hk
     refine wr_s_ok (by lia) fun l => ?_
     rw [thenT_next]
     refine wr_lineEnd P (dW m) n (wrF m) _ (strsD ts) lsE kd ([115] :: ts) k (by rw [List.length_cons]; lia) (fun t ht => ?_) hlE (fun loc led h => ?_) l
     ·rcases List.mem_cons.mp ht with rfl | ht
      ·show 1 ≤ _; lia
      ·exact hb' t ht
     ·refine hk _ _ ?_
      dsimp only
      rw [eL]
      exact h
    ·rw [if_neg (by rw [q]; decide)] at hk
     refine wr_e_ok (by lia) hb' fun l => ?_
     rw [thenT_next]
     refine wr_lineEnd P (dW m) n (wrF m) _ (strsD ts) lsE kd ([101, 61, 101] :: keyed quo ts) k (by rw [List.length_cons, keyed_len]; lia) (fun t ht => ?_) hlE (fun loc led h => ?_) l
     ·rcases List.mem_cons.mp ht with rfl | ht
      ·show 3 ≤ _; lia
      ·obtain ⟨i, t2, hi, ht2, rfl⟩ := keyed_mem ht
       have := hb t2 ht2
       simp only [List.length_cons, quo, List.length_append, List.length_nil]
       lia
     ·refine hk _ _ ?_
      dsimp only
      rw [eL]
      exact h
theorem svOf_okV (n : Nat) (d : PyData) : okV n (svOf d) := by cases d <;> trivial
theorem no_ok {w : World} {C : Cf} (hK : C.K = KK w.params) (d : Nat) : SpOk w C ⟨795, 2, d, fun _ _ _ => False⟩ := ⟨by rw [hK]; kernel_rfl, fun F A ads st s svs vs k Q Rr ok hA hh hd hu h => h.elim⟩
theorem cokWr (w : World) (d : Nat) (rf : List SV → St → Kt → Prop) (h : SpOk w (cfWr w.params d rf) ⟨795, 2, d, rf⟩) : CfOk w (cfWr w.params d rf) :=
 ⟨mem_nil, mem_nil, globs_of (gokWr _), mem_cons' h <| mem_cons' (join_ok rfl rfl) <| mem_cons' (marked_ok rfl rfl) mem_nil, mem_nil, mem_nil⟩
theorem wr_call {w : World} {C : Cf} (M d : Nat) (rf : List SV → St → Kt → Prop) (hsub : SpOk w (cfWr w.params d rf) ⟨795, 2, d, rf⟩) (hK : C.K = KK w.params) (hC : C.known = true)
  (hbody : ∀ (dd : PyData) (lsD : List PyData) (k : Kt), TreeOk M dd → lsD.length + (wr M dd).2.length ≤ 100000 → (∀ loc led, SosT 2 led (led.take 2) [.tab 746, .list ((lsD ++ (wr M dd).2.map lineD).map svOf)] → k (.ret (.str (tx (wr M dd).1))) ⟨loc, led⟩) →
   ev (cfWr w.params d rf) (20 * M + 200) ns795 (.sts (fBody s795)) (wrSt (svOf dd) (lsD.map svOf) [] (.cell none) []) k) : SpOk w C (wrSp M) := by
 refine ⟨by rw [hK]; kernel_rfl, ?_⟩
 intro F A ads st s svs vs k Q Rr ok hA hh hd hu h R D hl' T hR
 replace hA : true = true → A.frames = some F.stk := fun _ => hA hC
 obtain ⟨dd, lsD, rest, rfl, htree, hled, hls, hk⟩ := h
 have okY : FmOk (cfWr w.params d rf) F := fm_same hK.symm ok (by first | exact fun _ => rfl | exact fun _ => by assumption | exact fun h => h)
 have d40 : (wrSp M).d = 205 + 20 * M := rfl
 rw [d40] at hd hu
 refine call_sub (e := f795) (n := 20 * M + 200) (led₁ := [.tab 746, .list (lsD.map svOf)]) (led₂ := rest) (sound (cokWr w d rf hsub) (20 * M + 200)) (fok795 _) okY hA hh (by lia) (by lia) R D hl' hled ⟨trivial, (fun x hx => ?_), trivial⟩ (fun x hx => ?_) (by decide) ?_ T hR
 ·obtain ⟨y, _, rfl⟩ := List.mem_map.mp hx
  exact svOf_okV _ y
 ·rcases List.mem_cons.mp hx with rfl | hx
  ·exact svOf_okV _ _
  ·rw [List.mem_singleton.mp hx]; show 1 < 2; decide
 ·show ev (cfWr w.params d rf) (20 * M + 200) ns795 (.sts (fBody s795)) (wrSt (svOf dd) (lsD.map svOf) [] (.cell none) []) _
  exact hbody dd lsD _ htree hls fun loc led hs => ⟨_, _, _, .inl rfl, .same trivial, hs, hk⟩
theorem wr_ok {w : World} : ∀ (M : Nat), M ≤ 3 → ∀ {C : Cf}, C.K = KK w.params → C.known = true → SpOk w C (wrSp M)
 | 0, _, C, hK, hC => wr_call 0 0 (fun _ _ _ => False) (no_ok rfl 0) hK hC fun dd lsD k ht hl hk => by
  refine wr_leafBody w.params 0 0 _ lsD ht k fun loc => ?_
  obtain ⟨t, e, _⟩ := id ht
  rw [wr_leafEq 0 e] at hk
  refine hk _ _ ?_
  rw [List.map_nil, List.append_nil]
  exact .cons .tab (.cons (.list (svsT_svOf _ _ _)) .nil)
 | M + 1, hM, C, hK, hC => wr_call (M + 1) (dW M) (wrF M) (wr_ok M (by lia) rfl rfl) hK hC fun dd lsD k ht hl hk => by
  rcases ht with ht | ⟨kd, kids, rfl, hkd, hlen, hkids⟩
  ·refine wr_leafBody w.params (dW M) (20 * (M + 1)) _ lsD ht k fun loc => ?_
   obtain ⟨t, e, _⟩ := id ht
   rw [wr_leafEq (M + 1) e] at hk
   refine hk _ _ ?_
   rw [List.map_nil, List.append_nil]
   exact .cons .tab (.cons (.list (svsT_svOf _ _ _)) .nil)
  ·exact wr_nodeBody w.params M (20 * (M + 1)) (by lia) (by show 205 + 20 * M ≤ _; lia) kd kids lsD hkd hlen hkids hl k hk
section
variable {w : World} {C : Cf} {F : Fm} {ads : Wd} {s : Shared} {st : St} {A : Around} {E : Value → Shared → Prop}
theorem kvR_den {B : Heap} {G : Wd} : ∀ {fs : List (Str × SV)} {kvs : List (Str × Value)}, KvR B G fs kvs → DenL B G (fs.map (·.2)) (kvs.map (·.2)) := by
 intro fs kvs r
 induction r with
 | nil => exact .nil
 | cons d _ ih => exact .cons d ih
theorem rdL_keys {B : Heap} {fz : List (Addr × Obj)} : ∀ {kvs : List (Str × Value)} {vs : List Value}, vs.length = kvs.length → (∀ (j : Nat) (v : Value), vs[j]? = some v → ∃ (k : Str) (x : Value), kvs[j]? = some (k, x) ∧ ∃ t : Tok, v = Value.str k t) → RdL B fz vs (kvs.map fun p => .str p.1)
 | [], [], _, _ => .nil
 | q :: r, v :: vs, hl, hv => by
  obtain ⟨k, x, e, t, ev⟩ := hv 0 v rfl
  simp only [List.getElem?_cons_zero, Option.some.injEq] at e
  subst e; subst ev
  exact .cons (.str _ _) (rdL_keys (by simpa using hl) fun j u hu => by simpa using hv (j + 1) u (by simpa using hu))
 | [], _ :: _, hl, _ => by simp at hl
 | _ :: _, [], hl, _ => by simp at hl
theorem fz_list {h' : Heap} {t : Nat} {acc : Array Value} {c : Nat} {ds : List PyData} {Q : Value → Shared → Prop} (R : Rep w F ads st s.heap) (grow : ∀ b o, s.heap.get? b = some o → h'.get? b = some o)
  {a : Addr} (ha : s.heap.objs.size ≤ a) (ho : h'.get? a = some { cls := .type "list", dict := none, data := .seq acc c, slots := #[] }) (hl : ds.length ≤ sizeLine) (f : ∀ d ∈ ds, Fits d) (r : RdL F.B ads.fz acc.toList ds)
  (hQ : ∀ z v s', Rep w F (ads ++ (⟨[], z⟩ : Wd)) st s'.heap → Nx F s s' → Den F.B (ads ++ (⟨[], z⟩ : Wd)) (.dat (.list ds)) v → Q v s') : Q (.ref a) { s with heap := h', toks := t } := by
 have ho' : h'.get? a = some (listO acc.toList c) := by rw [ho]
 exact hQ [(a, listO acc.toList c)] (.ref a) _ (rep_fzAt R grow ho' ha) (Nx.of_gens rfl rfl rfl) (den_newL hl f r)
theorem dic_at {i : Nat} {fs : List (Str × SV)} {u : Value} (ok : FmOk C F) (R : Rep w F ads st s.heap) (d : Den F.B ads (.obj i) u) (hi : st.led[i]? = some (.dic fs)) :
  ∃ a o kvs, u = .ref a ∧ s.heap.get? a = some o ∧ o.IsDictOf (strKind prog w) kvs ∧ KvR F.B ads fs kvs ∧ (a == sysModules) = false := by
 obtain ⟨m, news, lw, pre, ps, post, a, dd, X, h1, h2, h3, h4⟩ := rep_at R hi
 obtain ⟨p, hp, rfl⟩ := d
 rw [h2] at hp; cases hp
 obtain ⟨o, kvs, hd, hk, rfl⟩ := h3.inv
 ·have ho := X.nw (a, o) (by rw [h1]; simp)
  refine ⟨a, o, kvs, rfl, ho.1, dicO_here hd, hk, ?_⟩
  obtain ⟨o1, hs⟩ := ok.G.sm
  refine beq_eq_false_iff_ne.mpr fun e => ?_
  have h0 := ho.2.2
  rw [show (a, o).1 = sysModules from e, hs] at h0
  cases h0
theorem listKeys_sound {i : Nat} {fs : List (Str × SV)} {u : Value} {Q : Value → Shared → Prop} (ok : FmOk C F) (hh : A.handled = none) (R : Rep w F ads st s.heap) (d : Den F.B ads (.obj i) u) (hi : st.led[i]? = some (.dic fs)) (hl : fs.length ≤ 1000000) (hk : ∀ p ∈ fs, p.1.length ≤ sizeLine)
  (hQ : ∀ z v s', Rep w F (ads ++ (⟨[], z⟩ : Wd)) st s'.heap → Nx F s s' → Den F.B (ads ++ (⟨[], z⟩ : Wd)) (.dat (.list (fs.map fun p => .str p.1))) v → Q v s') : wpAny (model prog w) A (call (.type "list") [u]) Q E s := by
 obtain ⟨a, o, kvs, rfl, ho, hd, kv, lo⟩ := dic_at ok R d hi
 obtain ⟨ep, hat⟩ := (Heap.dictOf_iff.mpr ⟨o, ho, hd⟩).dictAt
 refine kdl_call (kdl_dict (knd := strKind prog w) (kvs := kvs) (ep := ep) lo) hh hat (by rw [kv.length, sizeLine_eq]; lia) fun h' tk acc c' grow hB items => ?_
 have e1 : (kvs.map fun p => PyData.str p.1) = fs.map fun p => PyData.str p.1 := by
  have := congrArg (List.map PyData.str) kv.names
  rw [List.map_map, List.map_map] at this
  exact this
 refine fz_list (ds := fs.map fun p => .str p.1) R grow (Nat.le_refl _) hB (by rw [List.length_map, sizeLine_eq]; lia) (fun x hx => ?_) ?_ hQ
 ·obtain ⟨p, hp, rfl⟩ := List.mem_map.mp hx
  exact .str (hk p hp)
 ·rw [← e1]
  refine rdL_keys (by rw [Array.length_toList]; exact items.1) fun j v e => ?_
  obtain ⟨k, x, hx, hk⟩ := items.2 j v (by rw [← Array.getElem?_toList]; exact e)
  exact ⟨k, x, hx, Value.isStrOf_shape hk⟩
theorem listVals_sound {i : Nat} {fs : List (Str × SV)} {ds : List PyData} {u : Value} {Q : Value → Shared → Prop} (ok : FmOk C F) (hh : A.handled = none) (R : Rep w F ads st s.heap) (d : Den F.B ads (.obj i) u) (hi : st.led[i]? = some (.dic fs)) (hl : fs.length ≤ 1000000) (hv : frzs (fs.map (·.2)) = some ds)
  (hQ : ∀ z v s', Rep w F (ads ++ (⟨[], z⟩ : Wd)) st s'.heap → Nx F s s' → Den F.B (ads ++ (⟨[], z⟩ : Wd)) (.dat (.list ds)) v → Q v s') : wpAny (model prog w) A (call (.builtin "dict.values") [u]) (fun v s₁ => wpAny (model prog w) A (call (.type "list") [v]) Q E s₁) E s := by
 obtain ⟨a, o, kvs, rfl, ho, hd, kv, lo⟩ := dic_at ok R d hi
 have hD := Heap.dictOf_iff.mpr ⟨o, ho, hd⟩
 refine call_meetsIn PySem.F.slot_dict_values hD.typeIs PySem.F.entry_dict_values (PySem.F.args_dict_values_1 _) (meets_dict_values (strKind prog w) a lo) ⟨⟨kvs, hD⟩, ?_⟩
 obtain ⟨ep, hat⟩ := hD.dictAt
 obtain ⟨f1, f2, f3⟩ := frzs_sound (kvR_den kv) hv
 rw [List.length_map] at f3
 refine kdl_call (kdl_values (knd := strKind prog w) (kvs := kvs) (ep := ep)) hh ⟨⟨_, Heap.get?_push_size _ rfl, rfl, rfl⟩, hat.push _⟩ (by rw [kv.length, sizeLine_eq]; lia) fun h' tk acc c' grow hB items => ?_
 refine fz_list (s := s) (ds := ds) R (fun b o e => grow b o (Heap.get?_push_of_some _ e)) ?_ hB (by rw [sizeLine_eq]; lia) f1 ?_ hQ
 ·show s.heap.objs.size ≤ (s.heap.push _).objs.size
  simp [Heap.push]
 ·have e2 : acc.toList = kvs.map (·.2) := kdl_vals_eq acc.toList (by rw [Array.length_toList]; exact items.1) fun j v e => items.2 j v (by rw [← Array.getElem?_toList]; exact e)
  rw [e2]
  exact f2
end
noncomputable def s805 : Stmt := stAt 37 B01
noncomputable def f805 : FnE := ⟨805, 2, ["text", "floors"], [], fBody s805, fScope s805, "_law_read", .ref 804, ["floors"]⟩
theorem fok805 (P : Params) : FnOk (KK P) f805 := FnOk.of (by kernel_rfl) (by kernel_rfl) ⟨_, _, _, _, (by kernel_rfl : (KK P).lookup 805 = some (o805 P)), rfl, rfl, fun _ _ => rfl, rfl, rfl, fun s vs X h => by
 obtain ⟨a, b, rfl⟩ := len2 h
 exact BindsTo.of_eq (by kernel_rfl)⟩
noncomputable def ns805 : List (Str × NameKind) := (fScope s805).names
noncomputable def gRd : List (Str × Value) := [("split", .ref 744), ("parse_http_list", .ref 771), ("parse_keqv_list", .ref 766), ("list", .type "list"), ("str", .type "str"), ("range", .type "range"), ("len", .builtin "len"), ("_law_read", .ref 805)]
theorem gokRd (P : Params) : ∀ p ∈ gRd, GlobAt (KK P) p :=
 mem_cons' ⟨by kernel_rfl, .inl (by kernel_rfl)⟩ <| mem_cons' ⟨by kernel_rfl, .inl (by kernel_rfl)⟩ <| mem_cons' ⟨by kernel_rfl, .inl (by kernel_rfl)⟩ <|
 mem_cons' ⟨by kernel_rfl, .inr ⟨by kernel_rfl, by kernel_rfl, by kernel_rfl⟩⟩ <| mem_cons' ⟨by kernel_rfl, .inr ⟨by kernel_rfl, by kernel_rfl, by kernel_rfl⟩⟩ <| mem_cons' ⟨by kernel_rfl, .inr ⟨by kernel_rfl, by kernel_rfl, by kernel_rfl⟩⟩ <|
 mem_cons' ⟨by kernel_rfl, .inr ⟨by kernel_rfl, by kernel_rfl, by kernel_rfl⟩⟩ <| mem_cons' ⟨by kernel_rfl, .inl (by kernel_rfl)⟩ mem_nil
noncomputable def ifR2 : Stmt := stAt 2 (fBody s805)
noncomputable def ifR3 : Stmt := stAt 0 (ifEls ifR2)
noncomputable def kvB : List Stmt := ifEls ifR3
noncomputable def subO : Expr → Expr
 | .Subscript o _ _ => o
 | _ => default
noncomputable def valE : Expr := subO (aVal (stAt 1 kvB))
noncomputable def ifR4 : Stmt := stAt 2 kvB
noncomputable def keyE : Expr := cmpL (ifTest ifR4)
theorem val_eq : ∃ p1 p2 p3 p4 p5, valE = .Call (.Name "list" p1) [.Call (.Attribute (.Name "told" p2) "values" p3) [] [] p4] [] p5 ∧ (p3.endLine == p4.line) = true := ⟨kp valE [0], kp valE [1, 0, 0], kp valE [1, 0], kp valE [1], kp valE [], by kernel_rfl, by kernel_rfl⟩
theorem key_eq : ∃ p1 p2 p5, keyE = .Call (.Name "list" p1) [.Name "told" p2] [] p5 := ⟨kp keyE [0], kp keyE [1], kp keyE [], by kernel_rfl⟩
noncomputable def valHk : HkE Expr := ⟨(cPos valE).line, (cPos valE).col, 5, valE, fun ns st k => ns = ns805 ∧ ∃ fs ds, lk "told" st.loc = some (.obj 1) ∧ st.led[1]? = some (.dic fs) ∧ fs.length ≤ 1000000 ∧ frzs (fs.map (·.2)) = some ds ∧ k (.v (.dat (.list ds))) st⟩
noncomputable def keyHk : HkE Expr := ⟨(cPos keyE).line, (cPos keyE).col, 5, keyE, fun ns st k => ns = ns805 ∧ ∃ fs, lk "told" st.loc = some (.obj 1) ∧ st.led[1]? = some (.dic fs) ∧ fs.length ≤ 1000000 ∧ (∀ p ∈ fs, p.1.length ≤ sizeLine) ∧ k (.v (.dat (.list (fs.map fun p => .str p.1)))) st⟩
noncomputable abbrev cfGl (P : Params) : Cf where
 K := KK P
 globs := gRd
 fns := []
 cls := []
theorem cokGl (w : World) : CfOk w (cfGl w.params) := ⟨mem_nil, mem_nil, globs_of (gokRd _), mem_nil, mem_nil, mem_nil⟩
theorem keyHk_ok {w : World} {C : Cf} (hK : C.K = KK w.params) (hC : C.known = true) : HxOk w C keyHk := by
 intro F E ads st s k Q ok hd hu h R T
 obtain ⟨hns, fs, hx, hi, hl, hk, hk2⟩ := h
 obtain ⟨p1, p2, p5, e⟩ := key_eq
 show wpAny (model prog w) F.A (eval keyE F.env) (fun v s' => Q (.v v) s') E s
 rw [e]
 have ok3 : FmOk (cfGl w.params) F := fm_same (by rw [hK]) ok (by first | exact fun _ => rfl | exact fun _ => by assumption | exact fun h => h)
 refine Call_ (nm_glob (cokGl w) ok3 (by rw [hns]; kernel_rfl) (by kernel_rfl : lk "list" gRd = some (.type "list")) (by kernel_rfl) R ?_)
 refine callWith_plain (fun a e => nomatch e) rfl (spliced_more (nm_sv ok3 (by rw [hns]; kernel_rfl) hx (by kernel_rfl) R fun v dv => spliced_none ?_) rfl)
 exact listKeys_sound ok ok.hand R dv hi hl hk fun z v s' R' nx d => T (.v _) _ ⟨[], z⟩ (.v v) s' hk2 R' nx d
theorem valHk_ok {w : World} {C : Cf} (hK : C.K = KK w.params) (hC : C.known = true) : HxOk w C valHk := by
 intro F E ads st s k Q ok hd hu h R T
 obtain ⟨hns, fs, ds, hx, hi, hl, hv, hk2⟩ := h
 obtain ⟨p1, p2, p3, p4, p5, e, hp⟩ := val_eq
 show wpAny (model prog w) F.A (eval valE F.env) (fun v s' => Q (.v v) s') E s
 rw [e]
 have ok3 : FmOk (cfGl w.params) F := fm_same (by rw [hK]) ok (by first | exact fun _ => rfl | exact fun _ => by assumption | exact fun h => h)
 refine Call_ (nm_glob (cokGl w) ok3 (by rw [hns]; kernel_rfl) (by kernel_rfl : lk "list" gRd = some (.type "list")) (by kernel_rfl) R ?_)
 refine callWith_plain (fun a e => nomatch e) rfl (spliced_more ?_ rfl)
 have base : eval (.Call (.Attribute (.Name "told" p2) "values" p3) [] [] p4) F.env = (do
   let ov ← eval (.Name "told" p2) F.env
   standAt p3.atName
   let (f, first) ← holding [ov] (getMethod ov "values" (do return (← importBound (.Name "told" p2) F.env).getD true))
   callWith p4 f first (backTo p4 (starEach [] F.env)) []) := by
  show (do
   let ov ← attributeBase (.Name "told" p2) "values" F.env (eval (.Name "told" p2) F.env)
   standAt p3.atName
   methodCall (.Name "told" p2) "values" p3 p4 F.env ov (0 + 0) (backTo p4 (starEach [] F.env)) (backToKw p4 (keywordEach [] F.env))) = _
  rw [base_eq rfl]
  unfold methodCall calleeOf methodCallPos
  have few : methodCallForm (0 + 0) (backTo p4 (starEach [] F.env)) (backToKw p4 (keywordEach [] F.env)) = true := rfl
  rw [few]
  simp only [if_true, Bool.not_true, Bool.false_or, hp]
  rfl
 refine MethodCall_ (nm_sv ok3 (by rw [hns]; kernel_rfl) hx (by kernel_rfl) R fun v dv => ?_) base
 obtain ⟨a, o, kvs, rfl, ho, hdd, kv, lo⟩ := dic_at ok R dv hi
 have hD := Heap.dictOf_iff.mpr ⟨o, ho, hdd⟩
 refine getMethod_builtin hD.typeIs PySem.F.plainAttrs_dict PySem.F.slot_dict_values PySem.F.type_dict_values hD.mapOf.noDict ?_
 refine callWith_plain (fun a e => nomatch e) rfl (spliced_none ?_)
 refine wpAny_mono (listVals_sound (E := E) (Q := fun v s' => Q (.v v) s') ok ok.hand R dv hi hl hv fun z v s' R' nx d => T (.v _) _ ⟨[], z⟩ (.v v) s' hk2 R' nx d) (fun v s' hq => spliced_none hq) fun _ _ h => h
noncomputable abbrev cfRd (P : Params) (d : Nat) (rf : List SV → St → Kt → Prop) : Cf where
 K := KK P
 globs := gRd
 fns := []
 cls := []
 sps := [⟨805, 2, d, rf⟩, splitSp, httpSp, keqvSp]
 hxs := [valHk, keyHk]
noncomputable abbrev rdLoc (b : Str) (f : Int) (more : List (Str × SV)) : List (Str × SV) := ("floors", .obj 0) :: ("text", .str b) :: ("floors", .int f) :: more
noncomputable abbrev rdSt (b : Str) (f : Int) (more : List (Str × SV)) (l : List SO) : St := ⟨rdLoc b f more, .cell (some (.int f)) :: l⟩
noncomputable abbrev kd1 (b : Str) : Str := Txt.slice b none (some 1)
theorem rd_1 (P : Params) (d n : Nat) (rf : List SV → St → Kt → Prop) (b : Str) (f : Int) (k : Kt) : ev (cfRd P d rf) (n + 300) ns805 (.sts (fBody s805)) (rdSt b f [] []) k =
   ifT (Fast.sEq (kd1 b) "") (k (.ret (.str (Txt.slice b (some 1) none))) (rdSt b f [("kind", .str (kd1 b))] []))
    (ifT (Fast.sEq (kd1 b) "l") (k (.ret (.str (Txt.slice b (some 1) none))) (rdSt b f [("kind", .str (kd1 b))] []))
      (ifT (f == 0) (k (.ret (.str (Txt.slice b (some 1) none))) (rdSt b f [("kind", .str (kd1 b))] []))
        (ev (cfRd P d rf) (n + 298) ns805 (.sts ((fBody s805).drop 2)) (rdSt b f [("kind", .str (kd1 b))] []) k))) := by
  kernel_rfl
noncomputable def rdRest (P : Params) (d n : Nat) (rf : List SV → St → Kt → Prop) (k : Kt) : Kt := thenT (fun st k => ev (cfRd P d rf) (n + 297) ns805 (.sts ((fBody s805).drop 3)) st k) k
noncomputable abbrev rdK (b : Str) (f : Int) (kd : Str) : St := rdSt b f [("kind", .str kd)] []
noncomputable def lcP : Expr := aVal (stAt 0 (ifBody ifR3))
noncomputable def cnP : List (Str × NameKind) := relab (lcSc lcP).names
theorem rd_2 (P : Params) (d n : Nat) (rf : List SV → St → Kt → Prop) (b : Str) (f : Int) (kd : Str) (k : Kt) : ev (cfRd P d rf) (n + 298) ns805 (.sts ((fBody s805).drop 2)) (rdK b f kd) k =
   ifT (Fast.sEq kd "s") (ev (cfRd P d rf) (n + 296) ns805 (.sts (ifBody ifR2)) (rdK b f kd) (rdRest P d n rf k))
    (ifT (Fast.sEq kd "h") (ev (cfRd P d rf) (n + 294) ns805 (.sts (ifBody ifR3)) (rdK b f kd) (nxt (rdRest P d n rf k)))
      (ev (cfRd P d rf) (n + 294) ns805 (.sts kvB) (rdK b f kd) (nxt (rdRest P d n rf k)))) := by
  kernel_rfl
theorem rd_s (P : Params) (d n : Nat) (rf : List SV → St → Kt → Prop) (b : Str) (f : Int) (kd : Str) (k : Kt) : ev (cfRd P d rf) (n + 296) ns805 (.sts (ifBody ifR2)) (rdK b f kd) k =
   splitF [.str b] (rdK b f kd) (fun r st => match r with
     | .v x => slT st x (some 1) none fun z st => k .next { st with loc := put "parts" z st.loc }
     | _ => False) := by
  kernel_rfl
theorem rd_h (P : Params) (d n : Nat) (rf : List SV → St → Kt → Prop) (b : Str) (f : Int) (kd : Str) (k : Kt) : ev (cfRd P d rf) (n + 294) ns805 (.sts (ifBody ifR3)) (rdK b f kd) k =
   (b.length ≤ 1000000 ∧ compE (bindT cnP (lcTgt lcP)) none (fun st k => ev (cfRd P d rf) (n + 292) cnP (.ex (lcElt lcP)) st k) (.dat (.list (slD ((hitems b.cps.toList).map .str) (some 1) none))) ((slD ((hitems b.cps.toList).map .str) (some 1) none).map svOf) (.it true (.dat (.list (slD ((hitems b.cps.toList).map .str) (some 1) none)))) 1 2 0 ((slD ((hitems b.cps.toList).map .str) (some 1) none).map svOf)
     ⟨[], [.cell (some (.int f))] ++ [.it true (.dat (.list (slD ((hitems b.cps.toList).map .str) (some 1) none))) 0, .list []]⟩
     (fun stE => CompFin (rdLoc b f [("kind", .str kd)]) 1 2 stE fun y st => k .next { st with loc := put "parts" y st.loc })) := by
  kernel_rfl
theorem rd_helt (P : Params) (d n : Nat) (rf : List SV → St → Kt → Prop) (x : Str) (l : List SO) (K : Kt) (D : St → Prop) : bindT cnP (lcTgt lcP) (.str x) ⟨[], l⟩ (fun st₁ => testE none st₁ fun c st₂ => ifT c (ev (cfRd P d rf) (n + 292) cnP (.ex (lcElt lcP)) st₂ K) (D st₂)) =
   K (.v (.str (Txt.slice x (some 1) (some (-1))))) ⟨[("item", .str x)], l⟩ := by
  kernel_rfl
theorem rd_kv (P : Params) (d n : Nat) (rf : List SV → St → Kt → Prop) (b : Str) (f : Int) (kd : Str) (k : Kt) : ev (cfRd P d rf) (n + 294) ns805 (.sts kvB) (rdK b f kd) k =
   ifT (Fast.sEq kd "e") (splitF [.str b] (rdK b f kd) (fun r st => match r with
       | .v x => keqvF [x] st (fun r st => match r with
         | .v y => ev (cfRd P d rf) (n + 293) ns805 (.sts (kvB.drop 1)) { st with loc := put "told" y st.loc } k
         | _ => False)
       | _ => False))
     (httpF [.str b] (rdK b f kd) (fun r st => match r with
       | .v x => keqvF [x] st (fun r st => match r with
         | .v y => ev (cfRd P d rf) (n + 293) ns805 (.sts (kvB.drop 1)) { st with loc := put "told" y st.loc } k
         | _ => False)
       | _ => False)) := by
  kernel_rfl
theorem rd_kv2 (P : Params) (d n : Nat) (rf : List SV → St → Kt → Prop) (b : Str) (f : Int) (kd : Str) (l : List SO) (k : Kt) : ev (cfRd P d rf) (n + 293) ns805 (.sts (kvB.drop 1)) (rdSt b f [("kind", .str kd), ("told", .obj 1)] l) k =
   (valE = valE ∧ valHk.sp ns805 (rdSt b f [("kind", .str kd), ("told", .obj 1)] l) (fun r st => match r with
     | .v x => slT st x (some 1) none fun z st => ev (cfRd P d rf) (n + 292) ns805 (.sts (kvB.drop 2)) { st with loc := put "parts" z st.loc } k
     | _ => False)) := by
  kernel_rfl
noncomputable def cmpRh : Expr → Expr
 | .Compare _ _ (r :: _) _ => r
 | _ => default
noncomputable def rhsE : Expr := cmpRh (ifTest ifR4)
noncomputable def lcK : Expr := binR rhsE
noncomputable def cnK : List (Str × NameKind) := relab (lcSc lcK).names
noncomputable abbrev kvMore (kd : Str) (ps : List PyData) : List (Str × SV) := [("kind", .str kd), ("told", .obj 1), ("parts", .dat (.list ps))]
theorem rd_kv3 (P : Params) (d n : Nat) (rf : List SV → St → Kt → Prop) (b : Str) (f : Int) (kd : Str) (ps : List PyData) (l : List SO) (k : Kt) : ev (cfRd P d rf) (n + 292) ns805 (.sts (kvB.drop 2)) (rdSt b f (kvMore kd ps) l) k =
   (keyE = keyE ∧ keyHk.sp ns805 (rdSt b f (kvMore kd ps) l) (fun r st => match r with
     | .v x => ev (cfRd P d rf) (n + 289) ns805 (.ex rhsE) st fun r st₂ => match r with
       | .v y => cmpA (n + 289) st₂ .NotEq x y fun z => ifT z (ev (cfRd P d rf) (n + 290) ns805 (.sts (ifBody ifR4)) st₂ (nxt k)) (k .next st₂)
       | _ => False
     | _ => False)) := by
  kernel_rfl
theorem rd_rhs (P : Params) (d n : Nat) (rf : List SV → St → Kt → Prop) (b : Str) (f : Int) (kd : Str) (ps : List PyData) (a a2 : SO) (k : Kt) : ev (cfRd P d rf) (n + 289) ns805 (.ex rhsE) (rdSt b f (kvMore kd ps) [a, a2]) k =
   ((ps.map svOf).length ≤ sizeLine ∧ (0 : Int) ≤ (ps.map svOf).length ∧ (((ps.map svOf).length : Int)).toNat ≤ sizeLine ∧
   compE (bindT cnK (lcTgt lcK)) none (fun st k => ev (cfRd P d rf) (n + 287) cnK (.ex (lcElt lcK)) st k) (.obj 4) ((List.range (((ps.map svOf).length : Int)).toNat).map fun (j : Nat) => SV.int (j : Int)) (.itr (((ps.map svOf).length : Int)).toNat) 5 6 0 ((List.range (((ps.map svOf).length : Int)).toNat).map fun (j : Nat) => SV.int (j : Int))
     ⟨[], [.cell (some (.int f)), a, a2, .list [.str kd], .rng (((ps.map svOf).length : Int)).toNat] ++ [.itr (((ps.map svOf).length : Int)).toNat 0, .list []]⟩
     (fun stE => CompFin (rdLoc b f (kvMore kd ps)) 5 6 stE fun v st₁ => addL st₁ (.obj 3) v fun z st₂ => k (.v z) st₂)) := by
  kernel_rfl
theorem rd_kelt (P : Params) (d n : Nat) (rf : List SV → St → Kt → Prop) (i : Int) (l : List SO) (K : Kt) (D : St → Prop) : bindT cnK (lcTgt lcK) (.int i) ⟨[], l⟩ (fun st₁ => testE none st₁ fun c st₂ => ifT c (ev (cfRd P d rf) (n + 287) cnK (.ex (lcElt lcK)) st₂ K) (D st₂)) =
   (i.natAbs < 4611686018427387904 ∧ (strI i).length ≤ sizeLine ∧ (("k" : Str).length + (strI i).length ≤ sizeLine ∧ K (.v (.str ("k" ++ strI i))) ⟨[("n", .int i)], l⟩)) := by
  kernel_rfl
noncomputable def lcR : Expr := binR (rVal (stAt 3 (fBody s805)))
noncomputable def cnR : List (Str × NameKind) := relab (lcSc lcR).names
noncomputable abbrev sMore (kd : Str) (ps : List PyData) : List (Str × SV) := [("kind", .str kd), ("parts", .dat (.list ps))]
theorem rd_end1 (P : Params) (d n : Nat) (rf : List SV → St → Kt → Prop) (b : Str) (f : Int) (kd : Str) (ps : List PyData) (k : Kt) : ev (cfRd P d rf) (n + 297) ns805 (.sts ((fBody s805).drop 3)) (rdSt b f (sMore kd ps) []) k =
   compE (bindT cnR (lcTgt lcR)) none (fun st k => ev (cfRd P d rf) (n + 293) cnR (.ex (lcElt lcR)) st k) (.dat (.list ps)) (ps.map svOf) (.it true (.dat (.list ps))) 2 3 0 (ps.map svOf)
     ⟨[("floors", .obj 0)], [.cell (some (.int f)), .list [.str kd]] ++ [.it true (.dat (.list ps)) 0, .list []]⟩
     (fun stE => CompFin (rdLoc b f (sMore kd ps)) 2 3 stE fun v st₁ => addL st₁ (.obj 1) v fun z st₂ => k (.ret z) st₂) := by
  kernel_rfl
theorem rd_end2 (P : Params) (d n : Nat) (rf : List SV → St → Kt → Prop) (b : Str) (f : Int) (kd : Str) (ps : List PyData) (a a2 a3 a4 : SO) (k : Kt) : ev (cfRd P d rf) (n + 297) ns805 (.sts ((fBody s805).drop 3)) (rdSt b f (kvMore kd ps) [a, a2, a3, a4]) k =
   compE (bindT cnR (lcTgt lcR)) none (fun st k => ev (cfRd P d rf) (n + 293) cnR (.ex (lcElt lcR)) st k) (.dat (.list ps)) (ps.map svOf) (.it true (.dat (.list ps))) 6 7 0 (ps.map svOf)
     ⟨[("floors", .obj 0)], [.cell (some (.int f)), a, a2, a3, a4, .list [.str kd]] ++ [.it true (.dat (.list ps)) 0, .list []]⟩
     (fun stE => CompFin (rdLoc b f (kvMore kd ps)) 6 7 stE fun v st₁ => addL st₁ (.obj 5) v fun z st₂ => k (.ret z) st₂) := by
  kernel_rfl
theorem rd_elt (P : Params) (d n : Nat) (rf : List SV → St → Kt → Prop) (x : SV) (f : Int) (l : List SO) (K : Kt) (D : St → Prop) : bindT cnR (lcTgt lcR) x ⟨[("floors", .obj 0)], .cell (some (.int f)) :: l⟩ (fun st₁ => testE none st₁ fun c st₂ => ifT c (ev (cfRd P d rf) (n + 293) cnR (.ex (lcElt lcR)) st₂ K) (D st₂)) =
   callT (cfRd P d rf) (n + 292) (ev (cfRd P d rf) (n + 292)) 805 [x, .int (f - 1)] ⟨[("floors", .obj 0), ("part", x)], .cell (some (.int f)) :: l⟩ K := by
  kernel_rfl
theorem tx_cps (l : List Nat) : (tx l).cps.toList = l := by simp [tx]
theorem slice_hi (x : Str) (l : Option Int) : Txt.slice x l none = Txt.slice x l (some (x.length : Int)) := by
 unfold Txt.slice; rw [StrLaws.sliceIdx_none_hi]
theorem slice_lo (x : Str) (u : Option Int) : Txt.slice x none u = Txt.slice x (some 0) u := by
 unfold Txt.slice; rw [StrLaws.sliceIdx_none_lo]
theorem slice_ng (x : Str) (l : Option Int) {j : Int} (h0 : j < 0) (h1 : -(x.length : Int) ≤ j) : Txt.slice x l (some j) = Txt.slice x l (some (j + x.length)) := by
 unfold Txt.slice; rw [StrLaws.sliceIdx_neg_hi l x.length h0 h1]
theorem slice_to (l : List Nat) {n : Nat} (h : n ≤ l.length) : Txt.slice (tx l) none (some (n : Int)) = tx (l.take n) := by
 rw [slice_lo]
 have := slice_tx l (a := 0) (b := n) (Nat.zero_le _) h
 rw [show (((0 : Nat) : Int)) = 0 from rfl] at this
 rw [this, List.drop_zero, Nat.sub_zero]
theorem slice_from (l : List Nat) {n : Nat} (h : n ≤ l.length) : Txt.slice (tx l) (some (n : Int)) none = tx (l.drop n) := by
 rw [slice_hi, tx_len, slice_tx l h (Nat.le_refl _)]
 have : l.length - n = (l.drop n).length := by rw [List.length_drop]
 rw [this, List.take_length]
theorem slice_mid (a z : Nat) (l : List Nat) : Txt.slice (tx (a :: (l ++ [z]))) (some 1) (some (-1)) = tx l := by
 rw [slice_ng _ _ (by lia) (by rw [tx_len, List.length_cons]; lia), tx_len]
 have e : (-1 : Int) + ((a :: (l ++ [z])).length : Nat) = ((l.length + 1 : Nat) : Int) := by
  simp only [List.length_cons, List.length_append, List.length_nil]; lia
 rw [e, show (1 : Int) = ((1 : Nat) : Int) from rfl, slice_tx _ (by lia) (by simp)]
 rw [List.drop_succ_cons, List.drop_zero, Nat.add_sub_cancel, List.take_left]
theorem head_tx (c : Nat) (r : List Nat) : Txt.slice (tx (c :: r)) none (some 1) = tx [c] := by
 rw [show (1 : Int) = ((1 : Nat) : Int) from rfl, slice_to _ (by simp)]; rfl
theorem tail_tx (c : Nat) (r : List Nat) : Txt.slice (tx (c :: r)) (some 1) none = tx r := by
 rw [show (1 : Int) = ((1 : Nat) : Int) from rfl, slice_from _ (by simp)]; rfl
noncomputable def Thru (wr td : List Nat) : Prop := ∀ tail p res, hl (wr ++ tail) false false p res = hl tail false false (p ++ td) res
theorem thru_plain : ∀ w : List Nat, (∀ c ∈ w, c ≠ 34 ∧ c ≠ 44) → Thru w w
 | [], _, tail, p, res => by rw [List.nil_append, List.append_nil]
 | c :: r, h, tail, p, res => by
  obtain ⟨h1, h2⟩ := h c (.head _)
  rw [List.cons_append]
  conv => lhs; unfold hl
  rw [if_neg (by decide), if_neg (by decide), if_neg h2, if_neg h1]
  rw [thru_plain r (fun d hd => h d (.tail _ hd)) tail (p ++ [c]) res, List.append_assoc]; rfl
theorem thru_app {a b c d : List Nat} (h1 : Thru a b) (h2 : Thru c d) : Thru (a ++ c) (b ++ d) := fun tail p res => by
 rw [List.append_assoc, h1, h2, List.append_assoc]
theorem hl_esc (tail : List Nat) (res : List (List Nat)) : ∀ (t p : List Nat), hl (escS t ++ 34 :: tail) false true p res = hl tail false false (p ++ t ++ [34]) res
 | [], p => by
  show hl (34 :: tail) false true p res = _
  conv => lhs; unfold hl
  rw [if_neg (by decide), if_pos rfl, if_neg (by decide), if_pos rfl, List.append_nil]
 | c :: r, p => by
  have e : escS (c :: r) = (if c = 34 ∨ c = 92 then [92, c] else [c]) ++ escS r := rfl
  rw [e]
  by_cases hc : c = 34 ∨ c = 92
  ·rw [if_pos hc]
   show hl (92 :: c :: (escS r ++ 34 :: tail)) false true p res = _
   conv => lhs; unfold hl
   rw [if_neg (by decide), if_pos rfl, if_pos rfl]
   conv => lhs; unfold hl
   rw [if_pos rfl, hl_esc tail res r (p ++ [c])]
   simp
  ·rw [if_neg hc]
   show hl (c :: (escS r ++ 34 :: tail)) false true p res = _
   conv => lhs; unfold hl
   rw [if_neg (by decide), if_pos rfl, if_neg (fun e => hc (.inr e)), if_neg (fun e => hc (.inl e)), hl_esc tail res r (p ++ [c])]
   simp
theorem thru_mark (t : List Nat) : Thru (markS t) (quo t) := fun tail p res => by
 have e : markS t ++ tail = 34 :: (escS t ++ 34 :: tail) := by simp [markS]
 rw [e]
 conv => lhs; unfold hl
 rw [if_neg (by decide), if_neg (by decide), if_neg (by decide), if_pos rfl, hl_esc]
 simp [quo]
theorem hl_join : ∀ (r : List (List Nat × List Nat)) (x : List Nat × List Nat) (p : List Nat) (res : List (List Nat)), (∀ y ∈ x :: r, Thru y.1 y.2) →
  ∃ a z, hl (joinL [44, 32] ((x :: r).map (·.1))) false false p res = (res ++ a, z) ∧ a ++ [z] = (p ++ x.2) :: r.map fun y => 32 :: y.2
 | [], x, p, res, h => by
  refine ⟨[], p ++ x.2, ?_, rfl⟩
  have := h x (.head _) [] p res
  rw [List.append_nil] at this
  show hl x.1 false false p res = _
  rw [this, List.append_nil]; rfl
 | y :: r, x, p, res, h => by
  obtain ⟨a, z, h1, h2⟩ := hl_join r y [32] (res ++ [p ++ x.2]) fun u hu => h u (.tail _ hu)
  refine ⟨(p ++ x.2) :: a, z, ?_, ?_⟩
  ·show hl (x.1 ++ ([44, 32] ++ joinL [44, 32] ((y :: r).map (·.1)))) false false p res = _
   rw [h x (.head _)]
   show hl (44 :: 32 :: joinL [44, 32] ((y :: r).map (·.1))) false false (p ++ x.2) res = _
   conv => lhs; unfold hl
   rw [if_neg (by decide), if_neg (by decide), if_pos rfl]
   conv => lhs; unfold hl
   rw [if_neg (by decide), if_neg (by decide), if_neg (by decide), if_neg (by decide)]
   show hl _ false false [32] _ = _
   rw [h1, List.append_assoc]; rfl
  ·rw [List.cons_append, h2]; rfl
noncomputable def Tight (y : List Nat) : Prop := (∃ c r, y = c :: r ∧ Unicode.isSpace c = false) ∧ (∃ r z, y = r ++ [z] ∧ Unicode.isSpace z = false)
theorem tight_hi {y : List Nat} (h : Tight y) : (y.reverse.takeWhile Unicode.isSpace).length = 0 := by
 obtain ⟨_, r, z, rfl, hz⟩ := h
 rw [List.reverse_append]
 show (List.takeWhile _ (z :: r.reverse)).length = 0
 rw [List.takeWhile_cons, hz]; rfl
theorem strip_tight {y : List Nat} (h : Tight y) : Txt.strip (tx y) = tx y := by
 obtain ⟨⟨c, r, e, hc⟩, _⟩ := id h
 have lo : stripLo Unicode.isSpace true (tx y) = 0 := by
  show ((tx y).cps.toList.takeWhile Unicode.isSpace).length = 0
  rw [tx_cps, e, List.takeWhile_cons, hc]; rfl
 have hi : stripHi Unicode.isSpace true (tx y) 0 = (tx y).length := by
  show (tx y).length - (((tx y).cps.toList.drop 0).reverse.takeWhile Unicode.isSpace).length = _
  rw [tx_cps, List.drop_zero, tight_hi h]; rfl
 have : stripSame Unicode.isSpace true true (tx y) = true := by
  unfold stripSame
  rw [lo, hi]; simp
 show Txt.stripBy Unicode.isSpace true true (tx y) = _
 unfold Txt.stripBy
 rw [if_pos this]
theorem strip_blank {y : List Nat} (h : Tight y) : Txt.strip (tx (32 :: y)) = tx y := by
 obtain ⟨⟨c, r, e, hc⟩, _⟩ := id h
 have h32 : Unicode.isSpace 32 = true := by decide +kernel
 have lo : stripLo Unicode.isSpace true (tx (32 :: y)) = 1 := by
  show ((tx (32 :: y)).cps.toList.takeWhile Unicode.isSpace).length = 1
  rw [tx_cps, List.takeWhile_cons, h32, e]
  simp [hc]
 have hi : stripHi Unicode.isSpace true (tx (32 :: y)) 1 = (tx (32 :: y)).length := by
  show (tx (32 :: y)).length - (((tx (32 :: y)).cps.toList.drop 1).reverse.takeWhile Unicode.isSpace).length = _
  rw [tx_cps]
  show _ - ((y.reverse.takeWhile Unicode.isSpace).length) = _
  rw [tight_hi h]; rfl
 have : stripSame Unicode.isSpace true true (tx (32 :: y)) = false := by
  unfold stripSame
  rw [lo]; rfl
 show Txt.stripBy Unicode.isSpace true true (tx (32 :: y)) = _
 unfold Txt.stripBy
 rw [if_neg (by rw [this]; decide)]
 unfold PySem.stripped
 rw [lo, hi]
 refine str_tx ?_
 rw [StrLaws.strSub_toList, tx_cps, tx_len]
 show List.take _ y = y
 rw [List.length_cons, Nat.add_sub_cancel, List.take_length]
theorem hitems_join (x : List Nat × List Nat) (r : List (List Nat × List Nat)) (h : ∀ y ∈ x :: r, Thru y.1 y.2) (ht : ∀ y ∈ x :: r, Tight y.2) :
  hitems (joinL [44, 32] ((x :: r).map (·.1))) = (x :: r).map fun y => tx y.2 := by
 obtain ⟨a, z, h1, h2⟩ := hl_join r x [] [] h
 rw [List.nil_append] at h1 h2
 have hz : z ≠ [] := by
  have hm : z ∈ x.2 :: r.map fun y => 32 :: y.2 := by rw [← h2]; simp
  rcases List.mem_cons.mp hm with e | hm
  ·obtain ⟨⟨c, q, e2, _⟩, _⟩ := ht x (.head _)
   rw [e, e2]; exact List.cons_ne_nil _ _
  ·obtain ⟨y, _, e⟩ := List.mem_map.mp hm
   rw [← e]; exact List.cons_ne_nil _ _
 have hp : hparts (joinL [44, 32] ((x :: r).map (·.1))) = x.2 :: r.map fun y => 32 :: y.2 := by
  unfold hparts
  rw [h1]
  dsimp only
  rw [if_neg hz, h2]
 unfold hitems
 rw [hp, List.map_cons, List.map_cons, strip_tight (ht x (.head _)), List.map_map]
 congr 1
 refine List.map_congr_left fun y hy => ?_
 exact strip_blank (ht y (.tail _ hy))
theorem str_kind_pos (x : Str) : 1 ≤ PySem.Builtin.Str.strKind x := by
 unfold PySem.Builtin.Str.strKind
 split
 ·exact Nat.le_refl _
 ·split <;> decide
theorem splitMax_eq (key v : List Nat) (hk : 61 ∉ key) : Txt.splitMax (tx (key ++ 61 :: v)) "=" 1 = [tx key, tx v] := by
 have e1 : ("=" : Str) = (⟨#[61]⟩ : Str) := by rfl
 have hlen : (tx (key ++ 61 :: v)).length = key.length + 1 + v.length := by rw [tx_len]; simp; lia
 rw [e1]
 unfold Txt.splitMax
 have h1 : (decide ((tx (key ++ 61 :: v)).length < (⟨#[61]⟩ : Str).length) || decide (PySem.Builtin.Str.strKind (tx (key ++ 61 :: v)) < PySem.Builtin.Str.strKind ⟨#[61]⟩)) = false := by
  have a : ¬ (tx (key ++ 61 :: v)).length < (⟨#[61]⟩ : Str).length := by rw [hlen]; show ¬ _ < 1; lia
  have b : ¬ PySem.Builtin.Str.strKind (tx (key ++ 61 :: v)) < PySem.Builtin.Str.strKind ⟨#[61]⟩ := by
   have := str_kind_pos (tx (key ++ 61 :: v))
   have e : PySem.Builtin.Str.strKind ⟨#[61]⟩ = 1 := by decide +kernel
   rw [e]; lia
  rw [decide_eq_false a, decide_eq_false b]; rfl
 rw [if_neg (by rw [h1]; decide)]
 have hlim : PySem.limitOf (tx (key ++ 61 :: v)) 1 = 1 := by rfl
 rw [hlim]
 have at_iff : ∀ i, StrLaws.At (tx (key ++ 61 :: v)) ⟨#[61]⟩ (tx (key ++ 61 :: v)).length i ↔ (key ++ 61 :: v)[i]? = some 61 := fun i => by
  have := StrLaws.subAt_one (tx (key ++ 61 :: v)) 61 i
  rw [tx_cps] at this
  exact this
 have hat : (key ++ 61 :: v)[key.length]? = some 61 := by simp
 have hnot : ∀ i, i < key.length → (key ++ 61 :: v)[i]? ≠ some 61 := fun i hi e => by
  rw [List.getElem?_append_left hi] at e
  exact hk (List.mem_of_getElem? e)
 have hone := StrLaws.occ_length_le (tx (key ++ 61 :: v)) ⟨#[61]⟩ 0 (tx (key ++ 61 :: v)).length 1
 rcases StrLaws.occ_head (tx (key ++ 61 :: v)) ⟨#[61]⟩ 1 (Nat.le_refl 1) with ⟨_, hn⟩ | ⟨i, r, ho, ha, hn⟩
 ·exact absurd ((at_iff _).mpr hat) (hn _)
 ·rw [ho] at hone
  have hr : r = [] := List.eq_nil_of_length_eq_zero (by rw [List.length_cons] at hone; lia)
  have hi : i = key.length := by
   rcases Nat.lt_trichotomy i key.length with q | q | q
   ·exact absurd ((at_iff i).mp ha) (hnot i q)
   ·exact q
   ·exact absurd ((at_iff _).mpr hat) (hn _ q)
  subst hr hi
  rw [ho]
  rw [if_neg (by simp)]
  show [PySem.Builtin.Str.strSub (tx (key ++ 61 :: v)) 0 key.length, PySem.Builtin.Str.strSub (tx (key ++ 61 :: v)) (key.length + 1) (tx (key ++ 61 :: v)).length] = _
  have s1 : PySem.Builtin.Str.strSub (tx (key ++ 61 :: v)) 0 key.length = tx key := by
   refine str_tx ?_
   rw [StrLaws.strSub_toList, tx_cps, List.drop_zero, Nat.sub_zero, List.take_left]
  have s2 : PySem.Builtin.Str.strSub (tx (key ++ 61 :: v)) (key.length + 1) (tx (key ++ 61 :: v)).length = tx v := by
   refine str_tx ?_
   rw [StrLaws.strSub_toList, tx_cps]
   have : (key ++ 61 :: v).drop (key.length + 1) = v := by
    rw [← List.drop_drop, List.drop_left]; rfl
   rw [this, hlen, List.take_of_length_le (by lia)]
  rw [s1, s2]
theorem item_first (c : Nat) (r : List Nat) : Txt.item (tx (c :: r)) 0 = tx [c] := by
 unfold Txt.item Txt.charAt
 have : seqIndex? 0 (tx (c :: r)).length = some 0 := by
  rw [tx_len]
  unfold seqIndex?
  simp
 rw [this]
 show (⟨#[((tx (c :: r)).cps[0]?).getD 0]⟩ : Str) = _
 simp [tx]
theorem item_last (r : List Nat) (z : Nat) : Txt.item (tx (r ++ [z])) (-1) = tx [z] := by
 unfold Txt.item Txt.charAt
 have : seqIndex? (-1) (tx (r ++ [z])).length = some r.length := by
  rw [StrLaws.seqIndex_neg (by lia) (by rw [tx_len, List.length_append]; simp; lia), tx_len]
  simp
  lia
 rw [this]
 show (⟨#[((tx (r ++ [z])).cps[r.length]?).getD 0]⟩ : Str) = _
 simp [tx]
theorem unq_quo (t : List Nat) : unq (tx (quo t)) = tx t := by
 unfold unq quo
 have e1 : Txt.item (tx (34 :: (t ++ [34]))) 0 = tx [34] := item_first _ _
 have e2 : Txt.item (tx (34 :: (t ++ [34]))) (-1) = tx [34] := item_last (34 :: t) 34
 have e3 : Fast.sEq (tx [34]) "\"" = true := by rfl
 rw [e1, e2, e3]
 exact slice_mid 34 34 t
theorem unq_one (c : Nat) (h : c ≠ 34) : unq (tx [c]) = tx [c] := by
 unfold unq
 rw [item_first]
 have e3 : Fast.sEq (tx [c]) "\"" = false := by
  have := sg_eq c 34
  rw [decide_eq_false h] at this
  exact this
 rw [e3]
theorem strip_ok34 : Unicode.isSpace 34 = false := by decide +kernel
theorem tight_quo (t : List Nat) : Tight (quo t) := ⟨⟨34, t ++ [34], rfl, strip_ok34⟩, ⟨34 :: t, 34, rfl, strip_ok34⟩⟩
theorem tight_key (i : Nat) (t : List Nat) : Tight (107 :: (48 + i) :: 61 :: quo t) := ⟨⟨107, _, rfl, by decide +kernel⟩, ⟨107 :: (48 + i) :: 61 :: 34 :: t, 34, by simp [quo], strip_ok34⟩⟩
theorem thru_key (i : Nat) (hi : i < 10) (t : List Nat) : Thru (107 :: (48 + i) :: 61 :: markS t) (107 :: (48 + i) :: 61 :: quo t) := by
 have := thru_app (thru_plain [107, 48 + i, 61] fun c hc => by
  simp only [List.mem_cons, List.not_mem_nil, or_false] at hc
  rcases hc with rfl | rfl | rfl
  ·decide
  ·lia
  ·decide) (thru_mark t)
 exact this
noncomputable def keyN (i : Nat) : List Nat := [107, 48 + i]
noncomputable def kvsOf (c : Nat) (ts : List (List Nat)) : List (Str × Str) := (tx [c], tx [c]) :: (List.range ts.length).map fun i => (tx (keyN i), tx (quo (ts.getD i [])))
noncomputable def keysL (c : Nat) (n : Nat) : List (List Nat) := [c] :: (List.range n).map keyN
theorem keyed_eq (f : List Nat → List Nat) (ts : List (List Nat)) : keyed f ts = (List.range ts.length).map fun i => keyN i ++ 61 :: f (ts.getD i []) := rfl
theorem tx_inj {a b : List Nat} (h : tx a = tx b) : a = b := by
 have := congrArg (fun s : Str => s.cps.toList) h
 simpa [tx] using this
theorem kvOk_of (c : Nat) (hc : c = 100 ∨ c = 101) (ts : List (List Nat)) (hn : ts.length ≤ 10) (hb : ∀ t ∈ ts, t.length ≤ 90000) : KvOk ((([c, 61, c]) :: keyed quo ts).map tx) (kvsOf c ts) := by
 have h61 : c ≠ 61 := by rcases hc with rfl | rfl <;> decide
 refine .cons (splitMax_eq [c] [c] (by simp; lia)) (by rw [tx_len]; show 1 ≠ 0; decide) (by rw [tx_len]; show 3 ≤ 1000000; decide) (by rw [tx_len]; show 1 ≤ 1000000; decide) ?_
 rw [keyed_eq, List.map_map]
 have key : ∀ l : List Nat, (∀ i ∈ l, i < ts.length) → KvOk (l.map (tx ∘ fun i => keyN i ++ 61 :: quo (ts.getD i []))) (l.map fun i => (tx (keyN i), tx (quo (ts.getD i [])))) := by
  intro l
  induction l with
  | nil => intro _; exact .nil
  | cons i r ih =>
   intro h
   have hi := h i (.head _)
   have hg : ts.getD i [] = ts[i] := by simp [hi]
   have hl := hb ts[i] (List.getElem_mem hi)
   refine .cons (splitMax_eq (keyN i) _ (by simp [keyN]; lia)) ?_ ?_ ?_ (ih fun j hj => h j (.tail _ hj))
   ·rw [tx_len]; simp [quo]
   ·show (tx (keyN i ++ 61 :: quo (ts.getD i []))).length ≤ _
    rw [hg, tx_len]; simp [quo, keyN]; lia
   ·rw [hg, tx_len]; simp [quo]; lia
 exact key _ fun i hi => List.mem_range.mp hi
theorem put_new {α : Type} (k : Str) (v : α) : ∀ fs : List (Str × α), (∀ p ∈ fs, p.1 ≠ k) → put k v fs = fs ++ [(k, v)]
 | [], _ => rfl
 | (y, a) :: r, h => by
  unfold put
  cases q : Fast.sEq k y with
  | true => exact absurd (sEq_true q).symm (h (y, a) (.head _))
  | false =>
   show (y, a) :: put k v r = (y, a) :: (r ++ [(k, v)])
   rw [put_new k v r fun p hp => h p (.tail _ hp)]
theorem dput_new : ∀ (kvs fs : List (Str × Str)), (kvs.map (·.1)).Nodup → (∀ p ∈ fs, ∀ q ∈ kvs, p.1 ≠ q.1) → dput kvs fs = fs ++ kvs.map fun p => (p.1, unq p.2)
 | [], fs, _, _ => (List.append_nil fs).symm
 | (k, v) :: r, fs, nd, h => by
  rw [List.map_cons, List.nodup_cons] at nd
  unfold dput
  rw [put_new k _ fs fun p hp => h p hp (k, v) (.head _), dput_new r _ nd.2 fun p hp q hq => ?_]
  ·rw [List.append_assoc]; rfl
  ·rcases List.mem_append.mp hp with hp | hp
   ·exact h p hp q (.tail _ hq)
   ·rw [List.mem_singleton.mp hp]
    exact fun e => nd.1 (List.mem_map.mpr ⟨q, hq, e.symm⟩)
theorem keys_map (c : Nat) (ts : List (List Nat)) : (kvsOf c ts).map (·.1) = (keysL c ts.length).map tx := by
 unfold kvsOf keysL
 rw [List.map_cons, List.map_cons, List.map_map, List.map_map]; rfl
theorem keysL_nodup (c n : Nat) : (keysL c n).Nodup := by
 unfold keysL
 refine List.nodup_cons.mpr ⟨fun h => ?_, ?_⟩
 ·obtain ⟨i, _, e⟩ := List.mem_map.mp h
  cases e
 ·have : ∀ l : List Nat, l.Nodup → (l.map keyN).Nodup := by
   intro l
   induction l with
   | nil => intro _; exact List.nodup_nil
   | cons i r ih =>
    intro h
    rw [List.nodup_cons] at h
    refine List.nodup_cons.mpr ⟨fun hm => ?_, ih h.2⟩
    obtain ⟨j, hj, e⟩ := List.mem_map.mp hm
    have : j = i := by
     unfold keyN at e
     simp at e
     exact e
    exact h.1 (this ▸ hj)
  exact this _ List.nodup_range
theorem nodup_tx : ∀ l : List (List Nat), l.Nodup → (l.map tx).Nodup
 | [], _ => List.nodup_nil
 | x :: r, h => by
  rw [List.nodup_cons] at h
  refine List.nodup_cons.mpr ⟨fun hm => ?_, nodup_tx r h.2⟩
  obtain ⟨y, hy, e⟩ := List.mem_map.mp hm
  exact h.1 (tx_inj e ▸ hy)
theorem getD_map (ts : List (List Nat)) : (List.range ts.length).map (fun i => ts.getD i []) = ts := by
 have := range_map ts fun _ t => PyData.str (tx t)
 rw [show (fun i => (ts[i]?).map fun t => PyData.str (tx t)) = fun i => (ts[i]?).map (fun t => PyData.str (tx t)) from rfl, filterMap_signs2] at this
 have h2 : ∀ a b : List (List Nat), (a.map fun t => PyData.str (tx t)) = (b.map fun t => PyData.str (tx t)) → a = b := by
  intro a
  induction a with
  | nil =>
   intro b h
   cases b with
   | nil => rfl
   | cons y r => cases h
  | cons x a ih =>
   intro b h
   cases b with
   | nil => cases h
   | cons y r =>
    rw [List.map_cons, List.map_cons, List.cons.injEq] at h
    have e := tx_inj (PyData.str.inj h.1)
    rw [e, ih r h.2]
 refine h2 _ _ ?_
 rw [List.map_map]
 exact this.symm
theorem dput_kvs (c : Nat) (hc : c ≠ 34) (ts : List (List Nat)) : dput (kvsOf c ts) [] = (tx [c], tx [c]) :: (List.range ts.length).map fun i => (tx (keyN i), tx (ts.getD i [])) := by
 rw [dput_new _ _ (by rw [keys_map]; exact nodup_tx _ (keysL_nodup _ _)) (fun p hp => absurd hp List.not_mem_nil), List.nil_append]
 unfold kvsOf
 rw [List.map_cons, List.map_map]
 congr 1
 ·rw [unq_one c hc]
 ·refine List.map_congr_left fun i _ => ?_
  show (tx (keyN i), unq (tx (quo (ts.getD i [])))) = _
  rw [unq_quo]
theorem dput_vals (c : Nat) (hc : c ≠ 34) (ts : List (List Nat)) : (dput (kvsOf c ts) []).map (·.2) = ([c] :: ts).map tx := by
 rw [dput_kvs c hc, List.map_cons, List.map_cons, List.map_map]
 congr 1
 conv => rhs; rw [← getD_map ts]
 rw [List.map_map]; rfl
theorem dput_keys (c : Nat) (hc : c ≠ 34) (ts : List (List Nat)) : (dput (kvsOf c ts) []).map (·.1) = (keysL c ts.length).map tx := by
 rw [dput_kvs c hc]
 unfold keysL
 rw [List.map_cons, List.map_cons, List.map_map, List.map_map]; rfl
noncomputable def lrF (m : Nat) (svs : List SV) (st : St) (k : Kt) : Prop := ∃ dd : PyData, TreeOk m dd ∧ svs = [.str (tx (wr m dd).1), .int ((m : Int) + 1)] ∧ k (.v (svOf dd)) st
noncomputable abbrev dR (m : Nat) : Nat := 305 + 20 * m
noncomputable def lrSp (m : Nat) : SpE := ⟨805, 2, dR m, lrF m⟩
theorem callT_recR (P : Params) (d n : Nat) (rf : List SV → St → Kt → Prop) (evn : List (Str × NameKind) → Tk → St → Kt → Prop) (vs : List SV) (hv : vs.length = 2) (st : St) (k : Kt) (hd : d ≤ n) (h : rf vs st k) : callT (cfRd P d rf) n evn 805 vs st k := by
 unfold callT
 rw [hv]
 show (match Nat.ble d n with | true => rf vs st k | false => False)
 rw [Nat.ble_eq_true_of_le hd]
 exact h
theorem okF_rdLoc {n : Nat} (b : Str) (f : Int) (more : List (Str × SV)) (h : 1 ≤ n) (hm : okF n more) : okF n (rdLoc b f more) := ⟨by show 0 < n; lia, trivial, trivial, hm⟩
theorem fm_some {α : Type} (l : List α) : (List.range l.length).filterMap (fun i => l[i]?) = l := by
 have := filterMap_signs2 l fun x => x
 simp only [Option.map_id', List.map_id'] at this
 exact this
theorem addL_at {i : Nat} {l0 : Str} {loc : List (Str × SV)} {l : List SO} {es : List PyData} {k : SV → St → Prop} (hl : es.length ≤ 1000) (hs : l[i]? = some (.list [.str l0])) (hk : k (.dat (.list (.str l0 :: es))) ⟨loc, l⟩) : addL ⟨loc, l⟩ (.obj i) (.dat (.list es)) k := by
 unfold addL listDat
 dsimp only
 rw [hs]
 exact ⟨by rw [sizeLine_eq]; show 1 ≤ _; lia, by rw [sizeLine_eq]; show 1 + _ ≤ _; lia, hk⟩
section
variable {P : Params} {n m : Nat} {kids : List PyData} {ts : List (List Nat)} {b kd : Str} {f : Int} {k : Kt}
theorem rd_rec (hd : dR m ≤ n + 292) (hf : f = (m : Int) + 2) (hk : ∀ x ∈ kids, TreeOk m x) (hts : ts = kids.map fun x => (wr m x).1) (more : List SO) (loc : List (Str × SV)) (kk : SV → St → Prop) (hn : kids.length ≤ 1000)
    (hmore : ∀ n led, more.length + 1 ≤ n → SosT n led more more) (hloc : okF (more.length + 1) loc) (hkk : kk (.dat (.list kids)) ⟨loc, .cell (some (.int f)) :: more⟩) :
    compE (bindT cnR (lcTgt lcR)) none (fun st k => ev (cfRd P (dR m) (lrF m)) (n + 293) cnR (.ex (lcElt lcR)) st k) (.dat (.list (strsD ts))) ((strsD ts).map svOf) (.it true (.dat (.list (strsD ts)))) (more.length + 1) (more.length + 1 + 1) 0 ((strsD ts).map svOf)
     ⟨[("floors", .obj 0)], (.cell (some (.int f)) :: more) ++ [.it true (.dat (.list (strsD ts))) 0, .list []]⟩ (fun stE => CompFin loc (more.length + 1) (more.length + 1 + 1) stE kk) := by
  have hlen : ts.length = kids.length := by rw [hts, List.length_map]
  refine comp_gen (pre := .cell (some (.int f)) :: more) (fl := [("floors", .obj 0)]) loc kk (fun i => kids[i]?) (fun n led h => .cons (.cell (.same trivial)) (hmore n led h)) ⟨by show 0 < more.length + 1; lia, trivial⟩ hloc (fun _ _ _ _ => .it (.same trivial)) (fun a b => rfl)
    (by rw [strsD_map_len, sizeLine_eq]; lia) (fun i x zs K Dd hx hK' hD => ?_) ?_
  · rw [strsD_get, Option.map_eq_some_iff] at hx
    obtain ⟨t, ht, rfl⟩ := hx
    rw [hts, List.getElem?_map, Option.map_eq_some_iff] at ht
    obtain ⟨kid, hkid, rfl⟩ := ht
    show bindT cnR (lcTgt lcR) _ ⟨[("floors", .obj 0)], .cell (some (.int f)) :: (more ++ _)⟩ _
    rw [rd_elt]
    refine callT_recR P (dR m) (n + 292) (lrF m) _ _ rfl _ _ hd ⟨kid, hk kid (List.mem_of_getElem? hkid), ?_, ?_⟩
    · rw [hf]
      have : (m : Int) + 2 - 1 = (m : Int) + 1 := by lia
      rw [this]
    · exact hK' kid hkid [("part", .str (tx (wr m kid).1))] []
  · rw [strsD_map_len, hlen, fm_some]
    exact hkk
theorem rd_end1_ok (hd : dR m ≤ n + 292) (hf : f = (m : Int) + 2) (hk : ∀ x ∈ kids, TreeOk m x) (hts : ts = kids.map fun x => (wr m x).1) (hn : kids.length ≤ 10) (hkk : ∀ loc l, k (.ret (.dat (.list (.str kd :: kids)))) ⟨loc, l⟩) :
  ev (cfRd P (dR m) (lrF m)) (n + 297) ns805 (.sts ((fBody s805).drop 3)) (rdSt b f (sMore kd (strsD ts)) []) k := by
 rw [rd_end1]
 refine rd_rec (more := [.list [.str kd]]) hd hf hk hts (rdLoc b f (sMore kd (strsD ts))) (fun v st₁ => addL st₁ (.obj 1) v fun z st₂ => k (.ret z) st₂) (by lia)
  (fun n led h => .cons (.list (.cons (.same trivial) .nil)) .nil) (okF_rdLoc _ _ _ (by show 1 ≤ 2; lia) ⟨trivial, trivial, trivial⟩) ?_
 exact addL_at (by lia) rfl (hkk _ _)
theorem rd_end2_ok (hd : dR m ≤ n + 292) (hf : f = (m : Int) + 2) (hk : ∀ x ∈ kids, TreeOk m x) (hts : ts = kids.map fun x => (wr m x).1) (hn : kids.length ≤ 10) (fs : List (Str × Str)) (N : Nat) (hkk : ∀ loc l, k (.ret (.dat (.list (.str kd :: kids)))) ⟨loc, l⟩) :
  ev (cfRd P (dR m) (lrF m)) (n + 297) ns805 (.sts ((fBody s805).drop 3)) (rdSt b f (kvMore kd (strsD ts)) [.dic (dV fs), .gone, .list [.str kd], .rng N]) k := by
 rw [rd_end2]
 refine rd_rec (more := [.dic (dV fs), .gone, .list [.str kd], .rng N, .list [.str kd]]) hd hf hk hts (rdLoc b f (kvMore kd (strsD ts))) (fun v st₁ => addL st₁ (.obj 5) v fun z st₂ => k (.ret z) st₂) (by lia)
  (fun n led h => .cons (.dic (fldT_dV _ _ _)) (.cons .gone (.cons (.list (.cons (.same trivial) .nil)) (.cons .rng (.cons (.list (.cons (.same trivial) .nil)) .nil))))) (okF_rdLoc _ _ _ (by show 1 ≤ 6; lia) ⟨trivial, by show 1 < 6; lia, trivial, trivial⟩) ?_
 exact addL_at (by lia) rfl (hkk _ _)
theorem rd_s_ok (hb : LexAll b (.str " ") 1 0 (([115] :: ts).map tx)) (hn : ts.length ≤ 10) (hk : k .next (rdSt b f (sMore kd (strsD ts)) [])) {d : Nat} {rf : List SV → St → Kt → Prop} : ev (cfRd P d rf) (n + 296) ns805 (.sts (ifBody ifR2)) (rdK b f kd) k := by
 rw [rd_s]
 refine ⟨_, hb, by rw [List.length_map, List.length_cons, sizeLine_eq]; lia, ?_⟩
 show k .next ⟨put "parts" (.dat (.list (slD ((([115] :: ts).map tx).map .str) (some 1) none))) _, _⟩
 have e : slD ((([115] :: ts).map tx).map PyData.str) (some 1) none = strsD ts := by
  rw [show (1 : Int) = ((1 : Nat) : Int) from rfl, slD_drop, List.map_cons, List.map_cons, List.drop_succ_cons, List.drop_zero, List.map_map]; rfl
 rw [e]
 exact hk
theorem rd_h_ok (hb : hitems b.cps.toList = tx [104] :: ts.map fun t => tx (quo t)) (hbl : b.length ≤ 1000000) (hn : ts.length ≤ 10) (hk : k .next (rdSt b f (sMore kd (strsD ts)) [])) {d : Nat} {rf : List SV → St → Kt → Prop} : ev (cfRd P d rf) (n + 294) ns805 (.sts (ifBody ifR3)) (rdK b f kd) k := by
 rw [rd_h]
 have e : slD ((hitems b.cps.toList).map PyData.str) (some 1) none = strsD (ts.map quo) := by
  rw [hb, show (1 : Int) = ((1 : Nat) : Int) from rfl, slD_drop, List.map_cons, List.drop_succ_cons, List.drop_zero, List.map_map]
  unfold strsD
  rw [List.map_map]; rfl
 rw [e]
 refine ⟨hbl, ?_⟩
 refine comp_gen (pre := [.cell (some (.int f))]) (fl := []) (rdLoc b f [("kind", .str kd)]) (fun y st => k .next { st with loc := put "parts" y st.loc }) (fun i => (ts[i]?).map fun t => .str (tx t)) (fun n led h => .cons (.cell (.same trivial)) .nil) trivial (okF_rdLoc _ _ _ (Nat.le_refl 1) ⟨trivial, trivial⟩) (fun _ _ _ _ => .it (.same trivial)) (fun a b => rfl)
  (by rw [strsD_map_len, List.length_map, sizeLine_eq]; lia) (fun i x zs K Dd hx hK' hD => ?_) ?_
 ·rw [strsD_get, Option.map_eq_some_iff] at hx
  obtain ⟨q, hq, rfl⟩ := hx
  rw [List.getElem?_map, Option.map_eq_some_iff] at hq
  obtain ⟨t, ht, rfl⟩ := hq
  show bindT cnP (lcTgt lcP) (.str (tx (quo t))) ⟨[], _⟩ _
  rw [rd_helt]
  have hs := hK' (.str (tx t)) (by rw [ht]; rfl) [("item", .str (tx (quo t)))] []
  have e2 : Txt.slice (tx (quo t)) (some 1) (some (-1)) = tx t := slice_mid 34 34 t
  rw [e2]
  exact hs
 ·rw [strsD_map_len, List.length_map, filterMap_signs']
  have : ts.map (fun t => t) = ts := List.map_id' ts
  rw [this]
  exact hk
end
theorem lk_told (b : Str) (f : Int) (kd : Str) (more : List (Str × SV)) : lk "told" (rdLoc b f (("kind", .str kd) :: ("told", .obj 1) :: more)) = some (.obj 1) := by kernel_rfl
theorem put_parts (b : Str) (f : Int) (kd : Str) (z : SV) : put "parts" z (rdLoc b f [("kind", .str kd), ("told", .obj 1)]) = rdLoc b f [("kind", .str kd), ("told", .obj 1), ("parts", z)] := by kernel_rfl
theorem put_told (b : Str) (f : Int) (kd : Str) (z : SV) : put "told" z (rdLoc b f [("kind", .str kd)]) = rdLoc b f [("kind", .str kd), ("told", z)] := by kernel_rfl
theorem canLay_strs : ∀ l : List (List Nat), (∀ x ∈ l, ∀ c ∈ x, c < 0x110000) → PyData.canLayAll0 (strsD l) = true
 | [], _ => rfl
 | x :: r, h => by
  show (PyData.canLay0 (.str (tx x)) && PyData.canLayAll0 (strsD r)) = true
  rw [canLay_strs r fun y hy => h y (.tail _ hy), Bool.and_true]
  show PyData.strOk (tx x) = true
  unfold PyData.strOk
  rw [← Array.all_toList, List.all_eq_true]
  intro c hc
  rw [tx_cps] at hc
  exact decide_eq_true (h x (.head _) c hc)
theorem strs_depth : ∀ l : List (List Nat), PyData.depth (.list (strsD l)) ≤ 2 := by
 intro l
 have : ∀ l : List (List Nat), PyData.depthAll (strsD l) ≤ 1 := by
  intro l
  induction l with
  | nil => exact Nat.zero_le _
  | cons x r ih =>
   show max (PyData.depth (.str (tx x))) (PyData.depthAll (strsD r)) ≤ 1
   exact Nat.max_le.mpr ⟨by first | exact Nat.zero_le _ | exact Nat.le_refl _ | decide, ih⟩
 have h := this l
 rw [PyData.depth]
 lia
theorem cmpA_ne (n : Nat) (st : St) (d : PyData) (y : SV) (k : Bool → Prop) : cmpA n st .NotEq (.dat d) y k = eqD n st (.dat d) y (fun c => k (!c)) := rfl
theorem dV_len (fs : List (Str × Str)) : (dV fs).length = fs.length := List.length_map _
theorem frzs_dV : ∀ fs : List (Str × Str), frzs ((dV fs).map fun p : Str × SV => p.2) = some (fs.map fun p => PyData.str p.2)
 | [] => rfl
 | (x, v) :: r => by
  show (match frz1 (.str v) with | some d => (match frzs ((dV r).map fun p : Str × SV => p.2) with | some ds => some (d :: ds) | none => none) | none => none) = _
  rw [frzs_dV r]; rfl
section
variable {P : Params} {n d : Nat} {rf : List SV → St → Kt → Prop} {ts : List (List Nat)} {b : Str} {f : Int} {k : Kt}
theorem rd_kv_rest (c : Nat) (hc : c = 100 ∨ c = 101) (hn : ts.length ≤ 10)
  (hk : k .next (rdSt b f (kvMore (tx [c]) (strsD ts)) [.dic (dV (dput (kvsOf c ts) [])), .gone, .list [.str (tx [c])], .rng ts.length])) :
  ev (cfRd P d rf) (n + 293) ns805 (.sts (kvB.drop 1)) (rdSt b f [("kind", .str (tx [c])), ("told", .obj 1)] [.dic (dV (dput (kvsOf c ts) [])), .gone]) k := by
 have hc34 : c ≠ 34 := by rcases hc with rfl | rfl <;> decide
 have hvals := dput_vals c hc34 ts
 have hkeys := dput_keys c hc34 ts
 generalize hfs : dput (kvsOf c ts) [] = fs at *
 have hfl : fs.length = ts.length + 1 := by
  have := congrArg List.length hvals
  rw [List.length_map, List.length_map, List.length_cons] at this
  exact this
 rw [rd_kv2]
 have ev1 : fs.map (fun p => PyData.str p.2) = strsD ([c] :: ts) := by
  have := congrArg (List.map PyData.str) hvals
  rw [List.map_map, List.map_map] at this
  exact this
 refine ⟨rfl, rfl, dV fs, strsD ([c] :: ts), lk_told _ _ _ _, rfl, by rw [dV_len]; lia, by rw [frzs_dV, ev1], ?_⟩
 show ev (cfRd P d rf) (n + 292) ns805 (.sts (kvB.drop 2)) ⟨put "parts" (.dat (.list (slD (strsD ([c] :: ts)) (some 1) none))) (rdLoc b f [("kind", .str (tx [c])), ("told", .obj 1)]), [.cell (some (.int f)), .dic (dV fs), .gone]⟩ k
 have esl : slD (strsD ([c] :: ts)) (some 1) none = strsD ts := by
  rw [show (1 : Int) = ((1 : Nat) : Int) from rfl, slD_drop]; rfl
 rw [esl, put_parts]
 show ev (cfRd P d rf) (n + 292) ns805 (.sts (kvB.drop 2)) (rdSt b f (kvMore (tx [c]) (strsD ts)) [.dic (dV fs), .gone]) k
 rw [rd_kv3]
 have ev2 : (dV fs).map (fun p => PyData.str p.1) = strsD (keysL c ts.length) := by
  have := congrArg (List.map PyData.str) hkeys
  rw [List.map_map, List.map_map] at this
  unfold dV
  rw [List.map_map]
  exact this
 have hkb : ∀ p ∈ dV fs, p.1.length ≤ sizeLine := fun p hp => by
  have hm : PyData.str p.1 ∈ strsD (keysL c ts.length) := by
   rw [← ev2]; exact List.mem_map.mpr ⟨p, hp, rfl⟩
  obtain ⟨y, hy, e⟩ := List.mem_map.mp hm
  rw [← PyData.str.inj e, tx_len, sizeLine_eq]
  unfold keysL at hy
  rcases List.mem_cons.mp hy with rfl | hy
  ·show 1 ≤ _; lia
  ·obtain ⟨i, _, rfl⟩ := List.mem_map.mp hy
   show 2 ≤ _; lia
 refine ⟨rfl, rfl, dV fs, lk_told _ _ _ _, rfl, by rw [dV_len]; lia, hkb, ?_⟩
 rw [ev2]
 show ev (cfRd P d rf) (n + 289) ns805 (.ex rhsE) (rdSt b f (kvMore (tx [c]) (strsD ts)) [.dic (dV fs), .gone]) _
 rw [rd_rhs]
 have eN : (((strsD ts).map svOf).length : Int).toNat = ts.length := by rw [strsD_map_len]; rfl
 refine ⟨by rw [strsD_map_len, sizeLine_eq]; lia, by lia, by rw [eN, sizeLine_eq]; lia, ?_⟩
 rw [eN]
 refine comp_gen (pre := [.cell (some (.int f)), .dic (dV fs), .gone, .list [.str (tx [c])], .rng ts.length]) (fl := []) (rdLoc b f (kvMore (tx [c]) (strsD ts))) _ (fun i => some (.str (tx (keyN i))))
  (fun n led h => .cons (.cell (.same trivial)) (.cons (.dic (fldT_dV _ _ _)) (.cons .gone (.cons (.list (.cons (.same trivial) .nil)) (.cons .rng .nil))))) trivial (okF_rdLoc _ _ _ (by show 1 ≤ 5; lia) ⟨trivial, by show 1 < 5; lia, trivial, trivial⟩) (fun _ _ _ _ => .itr) (fun a b => rfl)
  (by rw [List.length_map, List.length_range, sizeLine_eq]; lia) (fun i x zs K Dd hx hK' hD => ?_) ?_
 ·rw [List.getElem?_map, Option.map_eq_some_iff] at hx
  obtain ⟨j, hj, rfl⟩ := hx
  obtain ⟨hj1, hj2⟩ := List.getElem?_eq_some_iff.mp hj
  rw [List.getElem_range] at hj2
  rw [List.length_range] at hj1
  subst hj2
  show bindT cnK (lcTgt lcK) (.int i) ⟨[], _⟩ _
  rw [rd_kelt, strI_small (by lia : i < 10)]
  have e1 : ("k" : Str) = tx [107] := by rfl
  rw [e1, tx_append]
  exact ⟨by lia, by rw [tx_len, sizeLine_eq]; show 1 ≤ _; lia, by rw [tx_len, tx_len, sizeLine_eq]; show 1 + 1 ≤ _; lia, hK' (.str (tx (keyN i))) rfl [("n", .int i)] []⟩
 ·rw [List.length_map, List.length_range]
  have ef : (List.range ts.length).filterMap (fun i => some (PyData.str (tx (keyN i)))) = strsD ((List.range ts.length).map keyN) := by
   rw [List.filterMap_eq_map']
   unfold strsD
   rw [List.map_map]; rfl
  rw [ef]
  refine addL_at (by rw [strsD_len, List.length_map, List.length_range]; lia) rfl ?_
  show cmpA (n + 289) _ .NotEq (.dat (.list (strsD (keysL c ts.length)))) (.dat (.list (strsD (keysL c ts.length)))) _
  rw [cmpA_ne]
  have hlay : PyData.canLay0 (.list (strsD (keysL c ts.length))) = true := by
   refine canLay_strs _ fun x hx q hq => ?_
   unfold keysL at hx
   rcases List.mem_cons.mp hx with rfl | hx
   ·rw [List.mem_singleton.mp hq]
    rcases hc with rfl | rfl <;> decide
   ·obtain ⟨i, hi, rfl⟩ := List.mem_map.mp hx
    rw [List.mem_range] at hi
    simp only [keyN, List.mem_cons, List.not_mem_nil, or_false] at hq
    rcases hq with rfl | rfl
    ·decide
    ·lia
  refine eqD_of (d := .list (strsD (keysL c ts.length))) (e := .list (strsD (keysL c ts.length))) rfl rfl (by lia) hlay hlay (by rw [Nat.min_self]; have := strs_depth (keysL c ts.length); lia) ?_
  rw [PySem.SeqAt.eqv_refl _ hlay]
  exact hk
theorem rd_kv_ok (c : Nat) (hc : c = 100 ∨ c = 101) (hn : ts.length ≤ 10) (hb : ∀ t ∈ ts, t.length ≤ 90000) (h1 : c = 101 → LexAll b (.str " ") 1 0 (([c, 61, c] :: keyed quo ts).map tx)) (h2 : c = 100 → b.length ≤ 1000000 ∧ hitems b.cps.toList = ([c, 61, c] :: keyed quo ts).map tx)
    (hk : k .next (rdSt b f (kvMore (tx [c]) (strsD ts)) [.dic (dV (dput (kvsOf c ts) [])), .gone, .list [.str (tx [c])], .rng ts.length])) :
    ev (cfRd P d rf) (n + 294) ns805 (.sts kvB) (rdK b f (tx [c])) k := by
  rw [rd_kv]
  have fin : keqvF [.dat (.list ((([c, 61, c] :: keyed quo ts).map tx).map .str))] (rdK b f (tx [c])) (fun r st => match r with
         | .v y => ev (cfRd P d rf) (n + 293) ns805 (.sts (kvB.drop 1)) { st with loc := put "told" y st.loc } k
         | _ => False) := by
    refine ⟨_, _, rfl, kvOk_of c hc ts hn hb, by rw [List.length_map, List.length_cons, keyed_len]; omega, ?_⟩
    show ev (cfRd P d rf) (n + 293) ns805 (.sts (kvB.drop 1)) ⟨put "told" (.obj 1) (rdLoc b f [("kind", .str (tx [c]))]), [.cell (some (.int f)), .dic (dV (dput (kvsOf c ts) [])), .gone]⟩ k
    rw [put_told]
    exact rd_kv_rest c hc hn hk
  refine ifT_of (fun q => ?_) fun q => ?_
  · have h101 : c = 101 := by
      have : Fast.sEq (tx [c]) "e" = decide (c = 101) := sg_eq c 101
      rw [this] at q; exact of_decide_eq_true q
    exact ⟨_, h1 h101, by rw [List.length_map, List.length_cons, keyed_len, sizeLine_eq]; omega, fin⟩
  · have h100 : c = 100 := by
      have : Fast.sEq (tx [c]) "e" = decide (c = 101) := sg_eq c 101
      rw [this] at q
      exact hc.resolve_right (of_decide_eq_false q)
    obtain ⟨a, e⟩ := h2 h100
    refine ⟨a, ?_⟩
    rw [e]
    exact fin
end
theorem wr_s_eq (m : Nat) (kids : List PyData) : (wr (m + 1) (.list (.str (tx [115]) :: kids))).1 = lineS ([115] :: kids.map fun x => (wr m x).1) := by
 rw [wr_list, if_neg (by decide), if_neg (by decide), if_pos (by decide)]
theorem wr_h_eq (m : Nat) (kids : List PyData) : (wr (m + 1) (.list (.str (tx [104]) :: kids))).1 = joinL [44, 32] ([104] :: (kids.map fun x => (wr m x).1).map markS) := by
 rw [wr_list, if_pos (by decide)]
theorem wr_d_eq (m : Nat) (kids : List PyData) : (wr (m + 1) (.list (.str (tx [100]) :: kids))).1 = joinL [44, 32] ([100, 61, 100] :: keyed markS (kids.map fun x => (wr m x).1)) := by
 rw [wr_list, if_neg (by decide), if_pos (by decide)]
theorem wr_e_eq (m : Nat) (kids : List PyData) : (wr (m + 1) (.list (.str (tx [101]) :: kids))).1 = lineS ([101, 61, 101] :: keyed quo (kids.map fun x => (wr m x).1)) := by
 rw [wr_list, if_neg (by decide), if_neg (by decide), if_neg (by decide)]
theorem lineS_head (x : List Nat) (ts : List (List Nat)) : ∃ r, lineS (x :: ts) = wordS x ++ r := by
 cases ts with
 | nil => exact ⟨[], (List.append_nil _).symm⟩
 | cons y r => exact ⟨_, rfl⟩
theorem joinL_head (s x : List Nat) (ts : List (List Nat)) : ∃ r, joinL s (x :: ts) = x ++ r := by
 cases ts with
 | nil => exact ⟨[], (List.append_nil _).symm⟩
 | cons y r => exact ⟨_, rfl⟩
theorem lex_all (ws : List (List Nat)) (h : ws ≠ []) (hl : (lineS ws).length ≤ 1000000) : LexAll (tx (lineS ws)) (.str " ") 1 0 (ws.map tx) := by
 have := lex_line ws [] 1 h (by rw [List.nil_append, sizeLine_eq]; lia)
 exact this
theorem hitems_h (ts : List (List Nat)) : hitems (joinL [44, 32] ([104] :: ts.map markS)) = tx [104] :: ts.map fun t => tx (quo t) := by
 have := hitems_join ([104], [104]) (ts.map fun t => (markS t, quo t)) (fun y hy => ?_) (fun y hy => ?_)
 ·rw [List.map_cons, List.map_map, List.map_cons, List.map_map] at this
  exact this
 ·rcases List.mem_cons.mp hy with rfl | hy
  ·exact thru_plain _ fun c hc => by rw [List.mem_singleton.mp hc]; decide
  ·obtain ⟨t, _, rfl⟩ := List.mem_map.mp hy
   exact thru_mark t
 ·rcases List.mem_cons.mp hy with rfl | hy
  ·exact ⟨⟨104, [], rfl, by decide +kernel⟩, ⟨[], 104, rfl, by decide +kernel⟩⟩
  ·obtain ⟨t, _, rfl⟩ := List.mem_map.mp hy
   exact tight_quo t
theorem hitems_d (ts : List (List Nat)) (hn : ts.length ≤ 10) : hitems (joinL [44, 32] ([100, 61, 100] :: keyed markS ts)) = ([100, 61, 100] :: keyed quo ts).map tx := by
 have := hitems_join ([100, 61, 100], [100, 61, 100]) ((List.range ts.length).map fun i => (107 :: (48 + i) :: 61 :: markS (ts.getD i []), 107 :: (48 + i) :: 61 :: quo (ts.getD i []))) (fun y hy => ?_) (fun y hy => ?_)
 ·rw [List.map_cons, List.map_map, List.map_cons, List.map_map] at this
  rw [List.map_cons]
  unfold keyed
  rw [List.map_map]
  exact this
 ·rcases List.mem_cons.mp hy with rfl | hy
  ·refine thru_plain _ fun c hc => ?_
   simp only [List.mem_cons, List.not_mem_nil, or_false] at hc
   rcases hc with rfl | rfl | rfl <;> decide
  ·obtain ⟨i, hi, rfl⟩ := List.mem_map.mp hy
   rw [List.mem_range] at hi
   exact thru_key i (by lia) _
 ·rcases List.mem_cons.mp hy with rfl | hy
  ·exact ⟨⟨100, [61, 100], rfl, by decide +kernel⟩, ⟨[100, 61], 100, rfl, by decide +kernel⟩⟩
  ·obtain ⟨i, hi, rfl⟩ := List.mem_map.mp hy
   exact tight_key i _
theorem ifT_t (a b : Prop) : ifT true a b = a := rfl
theorem ifT_f (a b : Prop) : ifT false a b = b := rfl
theorem kd1_ne (c : Nat) (hc : c = 115 ∨ c = 104 ∨ c = 100 ∨ c = 101) : Fast.sEq (tx [c]) "" = false ∧ Fast.sEq (tx [c]) "l" = false := by
 rcases hc with rfl | rfl | rfl | rfl <;> exact ⟨by decide, by decide⟩
theorem rd_into {P : Params} {n d m : Nat} {rf : List SV → St → Kt → Prop} {k : Kt} (c : Nat) (r : List Nat) (hc : c = 115 ∨ c = 104 ∨ c = 100 ∨ c = 101) (f : Int) (hf : f ≠ 0) (h : ev (cfRd P d rf) (n + 298) ns805 (.sts ((fBody s805).drop 2)) (rdK (tx (c :: r)) f (tx [c])) k) :
  ev (cfRd P d rf) (n + 300) ns805 (.sts (fBody s805)) (rdSt (tx (c :: r)) f [] []) k := by
 rw [rd_1]
 have e : kd1 (tx (c :: r)) = tx [c] := head_tx c r
 rw [e]
 obtain ⟨h1, h2⟩ := kd1_ne c hc
 have h3 : (f == 0) = false := beq_eq_false_iff_ne.mpr hf
 rw [h1, h2, h3]
 exact h
theorem rd_leafBody {P : Params} {n d : Nat} {rf : List SV → St → Kt → Prop} {k : Kt} (f : Int) {dd : PyData} (h : LeafOk dd) (hk : ∀ loc l, k (.ret (svOf dd)) ⟨loc, l⟩) :
  ev (cfRd P d rf) (n + 300) ns805 (.sts (fBody s805)) (rdSt (tx (leafT dd)) f [] []) k := by
 obtain ⟨t, rfl, ht, _⟩ := h
 rw [rd_1]
 have e0 : leafT (.str (tx t)) = if t = [] then [] else 108 :: t := by
  show (if (tx t).cps.toList = [] then [] else 108 :: (tx t).cps.toList) = _
  rw [tx_toList]
 rw [e0]
 by_cases hne : t = []
 ·rw [if_pos hne]
  have e1 : Fast.sEq (kd1 (tx [])) "" = true := by decide
  rw [e1]
  have e2 : Txt.slice (tx []) (some 1) none = tx t := by rw [hne]; decide
  show k (.ret (.str (Txt.slice (tx []) (some 1) none))) _
  rw [e2]
  exact hk _ _
 ·rw [if_neg hne]
  have e : kd1 (tx (108 :: t)) = tx [108] := head_tx 108 t
  rw [e]
  have e1 : Fast.sEq (tx [108]) "" = false := by decide
  have e2 : Fast.sEq (tx [108]) "l" = true := by decide
  rw [e1, e2]
  show k (.ret (.str (Txt.slice (tx (108 :: t)) (some 1) none))) _
  rw [tail_tx]
  exact hk _ _
theorem rd_nodeBody {P : Params} {n m : Nat} {k : Kt} (hm : m ≤ 2) (hd : dR m ≤ n + 292) (c : Nat) (hc : c = 115 ∨ c = 104 ∨ c = 100 ∨ c = 101) (kids : List PyData) (hlen : kids.length ≤ 6) (hkids : ∀ x ∈ kids, TreeOk m x) (f : Int) (hf : f = (m : Int) + 2)
  (htree : TreeOk (m + 1) (.list (.str (tx [c]) :: kids))) (hk : ∀ loc l, k (.ret (.dat (.list (.str (tx [c]) :: kids)))) ⟨loc, l⟩) :
  ev (cfRd P (dR m) (lrF m)) (n + 300) ns805 (.sts (fBody s805)) (rdSt (tx (wr (m + 1) (.list (.str (tx [c]) :: kids))).1) f [] []) k := by
 have hT : (wr (m + 1) (.list (.str (tx [c]) :: kids))).1.length ≤ 1000000 := by
  have h1 := wr_len (m + 1) htree
  have h2 := bndT_mono (show m + 1 ≤ 3 by lia)
  have : bndT 3 = 267200 := rfl
  lia
 generalize hts : kids.map (fun x => (wr m x).1) = ts
 have hnt : ts.length ≤ 10 := by rw [← hts, List.length_map]; lia
 have hb : ∀ t ∈ ts, t.length ≤ 90000 := fun t ht => by
  rw [← hts] at ht
  obtain ⟨x, hx, rfl⟩ := List.mem_map.mp ht
  have h1 := wr_len m (hkids x hx)
  have h2 := bndT_mono hm
  have : bndT 2 = 8900 := rfl
  lia
 have hf0 : f ≠ 0 := by lia
 have e1 : ∀ (b : Str) (k' : Kt), k' = k → ev (cfRd P (dR m) (lrF m)) (n + 297) ns805 (.sts ((fBody s805).drop 3)) (rdSt b f (sMore (tx [c]) (strsD ts)) []) k := fun b k' _ => rd_end1_ok hd hf hkids hts.symm (by lia) hk
 have e2 : ∀ (b : Str) (fs : List (Str × Str)) (N : Nat), ev (cfRd P (dR m) (lrF m)) (n + 297) ns805 (.sts ((fBody s805).drop 3)) (rdSt b f (kvMore (tx [c]) (strsD ts)) [.dic (dV fs), .gone, .list [.str (tx [c])], .rng N]) k := fun b fs N => rd_end2_ok hd hf hkids hts.symm (by lia) fs N hk
 have hsE : ∀ x : Nat, Fast.sEq (tx [c]) (tx [x]) = decide (c = x) := fun x => sg_eq c x
 have l1 : ("s" : Str) = tx [115] := by rfl
 have l2 : ("h" : Str) = tx [104] := by rfl
 rcases hc with rfl | rfl | rfl | rfl
 ·rw [wr_s_eq, hts] at hT ⊢
  obtain ⟨r, hr⟩ := lineS_head [115] ts
  have hw : wordS [115] = [115] := by decide +kernel
  rw [hw] at hr
  replace hr : lineS ([115] :: ts) = 115 :: r := hr
  have hlex := lex_all ([115] :: ts) (List.cons_ne_nil _ _) hT
  rw [hr] at hlex ⊢
  refine rd_into (m := m) 115 r (.inl rfl) f hf0 ?_
  rw [rd_2, l1, hsE, decide_eq_true rfl, ifT_t]
  refine rd_s_ok hlex hnt ?_
  exact e1 _ k rfl
 ·rw [wr_h_eq, hts] at hT ⊢
  obtain ⟨r, hr⟩ := joinL_head [44, 32] [104] (ts.map markS)
  replace hr : joinL [44, 32] ([104] :: ts.map markS) = 104 :: r := hr
  have hit := hitems_h ts
  rw [hr] at hit hT ⊢
  refine rd_into (m := m) 104 r (.inr (.inl rfl)) f hf0 ?_
  rw [rd_2, l1, l2, hsE, hsE, decide_eq_false (by decide), decide_eq_true rfl, ifT_f, ifT_t]
  refine rd_h_ok (ts := ts) ?_ (by rw [tx_len]; exact hT) hnt ?_
  ·rw [tx_cps]; exact hit
  ·exact e1 _ k rfl
 ·rw [wr_d_eq, hts] at hT ⊢
  obtain ⟨r, hr⟩ := joinL_head [44, 32] [100, 61, 100] (keyed markS ts)
  replace hr : joinL [44, 32] ([100, 61, 100] :: keyed markS ts) = 100 :: ([61, 100] ++ r) := hr
  have hit := hitems_d ts hnt
  rw [hr] at hit hT ⊢
  refine rd_into (m := m) 100 ([61, 100] ++ r) (.inr (.inr (.inl rfl))) f hf0 ?_
  rw [rd_2, l1, l2, hsE, hsE, decide_eq_false (by decide), decide_eq_false (by decide), ifT_f, ifT_f]
  refine rd_kv_ok (ts := ts) 100 (.inl rfl) hnt hb (fun h => absurd h (by decide)) (fun _ => ⟨by rw [tx_len]; exact hT, ?_⟩) ?_
  ·rw [tx_cps]; exact hit
  ·exact e2 _ _ _
 ·rw [wr_e_eq, hts] at hT ⊢
  obtain ⟨r, hr⟩ := lineS_head [101, 61, 101] (keyed quo ts)
  have hw : wordS [101, 61, 101] = [101, 61, 101] := by decide +kernel
  rw [hw] at hr
  replace hr : lineS ([101, 61, 101] :: keyed quo ts) = 101 :: ([61, 101] ++ r) := hr
  have hlex := lex_all ([101, 61, 101] :: keyed quo ts) (List.cons_ne_nil _ _) hT
  rw [hr] at hlex ⊢
  refine rd_into (m := m) 101 ([61, 101] ++ r) (.inr (.inr (.inr rfl))) f hf0 ?_
  rw [rd_2, l1, l2, hsE, hsE, decide_eq_false (by decide), decide_eq_false (by decide), ifT_f, ifT_f]
  refine rd_kv_ok (ts := ts) 101 (.inr rfl) hnt hb (fun _ => hlex) (fun h => absurd h (by decide)) ?_
  exact e2 _ _ _
theorem noR_ok {w : World} {C : Cf} (hK : C.K = KK w.params) (d : Nat) : SpOk w C ⟨805, 2, d, fun _ _ _ => False⟩ := ⟨by rw [hK]; kernel_rfl, fun F A ads st s svs vs k Q Rr ok hA hh hd hu h => h.elim⟩
theorem cokRd (w : World) (d : Nat) (rf : List SV → St → Kt → Prop) (h : SpOk w (cfRd w.params d rf) ⟨805, 2, d, rf⟩) : CfOk w (cfRd w.params d rf) :=
 ⟨mem_nil, mem_nil, globs_of (gokRd _), mem_cons' h <| mem_cons' (split_ok rfl rfl) <| mem_cons' (http_ok rfl rfl) <| mem_cons' (keqv_ok rfl rfl) mem_nil, mem_cons' (valHk_ok rfl rfl) <| mem_cons' (keyHk_ok rfl rfl) mem_nil, mem_nil⟩
theorem lr_call {w : World} {C : Cf} (M d : Nat) (rf : List SV → St → Kt → Prop) (hsub : SpOk w (cfRd w.params d rf) ⟨805, 2, d, rf⟩) (hK : C.K = KK w.params) (hC : C.known = true)
  (hbody : ∀ (dd : PyData) (k : Kt), TreeOk M dd → (∀ loc led, k (.ret (svOf dd)) ⟨loc, led⟩) →
   ev (cfRd w.params d rf) (20 * M + 300) ns805 (.sts (fBody s805)) (rdSt (tx (wr M dd).1) ((M : Int) + 1) [] []) k) : SpOk w C (lrSp M) := by
 refine ⟨by rw [hK]; kernel_rfl, ?_⟩
 intro F A ads st s svs vs k Q Rr ok hA hh hd hu h R D hl' T hR
 replace hA : true = true → A.frames = some F.stk := fun _ => hA hC
 obtain ⟨dd, htree, rfl, hk⟩ := h
 have okY : FmOk (cfRd w.params d rf) F := fm_same hK.symm ok (by first | exact fun _ => rfl | exact fun _ => by assumption | exact fun h => h)
 have d40 : (lrSp M).d = 305 + 20 * M := rfl
 rw [d40] at hd hu
 refine call_sub (e := f805) (n := 20 * M + 300) (led₁ := []) (led₂ := st.led) (sound (cokRd w d rf hsub) (20 * M + 300)) (fok805 _) okY hA hh (by lia) (by lia) R D hl' rfl trivial (fun x hx => ?_) (by decide) ?_ T hR
 ·rcases List.mem_cons.mp hx with rfl | hx
  ·trivial
  ·rw [List.mem_singleton.mp hx]; trivial
 ·show ev (cfRd w.params d rf) (20 * M + 300) ns805 (.sts (fBody s805)) (rdSt (tx (wr M dd).1) ((M : Int) + 1) [] []) _
  exact hbody dd _ htree fun loc led => ⟨svOf dd, svOf dd, [], .inl rfl, .same (by cases dd <;> trivial), .nil, hk⟩
theorem kd_code {k : Str} (h : k = "s" ∨ k = "h" ∨ k = "e" ∨ k = "d") : ∃ c, k = tx [c] ∧ (c = 115 ∨ c = 104 ∨ c = 100 ∨ c = 101) := by
 rcases h with rfl | rfl | rfl | rfl
 ·exact ⟨115, by rfl, .inl rfl⟩
 ·exact ⟨104, by rfl, .inr (.inl rfl)⟩
 ·exact ⟨101, by rfl, .inr (.inr (.inr rfl))⟩
 ·exact ⟨100, by rfl, .inr (.inr (.inl rfl))⟩
theorem lr_ok {w : World} : ∀ (M : Nat), M ≤ 3 → ∀ {C : Cf}, C.K = KK w.params → C.known = true → SpOk w C (lrSp M)
 | 0, _, C, hK, hC => lr_call 0 0 (fun _ _ _ => False) (noR_ok rfl 0) hK hC fun dd k ht hk => by
  obtain ⟨t, e, _⟩ := id ht
  rw [wr_leafEq 0 e]
  exact rd_leafBody (n := 20 * 0) _ ht hk
 | M + 1, hM, C, hK, hC => lr_call (M + 1) (dR M) (lrF M) (lr_ok M (by lia) rfl rfl) hK hC fun dd k ht hk => by
  rcases id ht with hl | ⟨kd, kids, rfl, hkd, hlen, hkids⟩
  ·obtain ⟨t, e, _⟩ := id hl
   rw [wr_leafEq (M + 1) e]
   exact rd_leafBody (n := 20 * (M + 1)) _ hl hk
  ·obtain ⟨c, rfl, hc⟩ := kd_code hkd
   exact rd_nodeBody (n := 20 * (M + 1)) (by lia) (by show 305 + 20 * M ≤ _; lia) c hc kids hlen hkids _ (by lia) ht hk
noncomputable def s810 : Stmt := stAt 38 B01
noncomputable def f810 : FnE := ⟨810, 1, ["script"], [], fBody s810, fScope s810, "law", .ref 809, []⟩
theorem fok810 (P : Params) : FnOk (KK P) f810 := FnOk.of (by kernel_rfl) (by kernel_rfl) ⟨_, _, _, _, (by kernel_rfl : (KK P).lookup 810 = some (o810 P)), rfl, rfl, fun _ _ => rfl, rfl, rfl, fun s vs X h => by
 obtain ⟨a, rfl⟩ := len1 h
 exact BindsTo.of_eq (by kernel_rfl)⟩
noncomputable def ns810 : List (Str × NameKind) := (fScope s810).names
noncomputable def gLw : List (Str × Value) := [("_law_tree", .ref 785), ("_law_written", .ref 795), ("_law_read", .ref 805), ("_law_word", .ref 800)]
theorem gokLw (P : Params) : ∀ p ∈ gLw, GlobAt (KK P) p :=
 mem_cons' ⟨by kernel_rfl, .inl (by kernel_rfl)⟩ <| mem_cons' ⟨by kernel_rfl, .inl (by kernel_rfl)⟩ <| mem_cons' ⟨by kernel_rfl, .inl (by kernel_rfl)⟩ <| mem_cons' ⟨by kernel_rfl, .inl (by kernel_rfl)⟩ mem_nil
noncomputable abbrev cfLw (P : Params) : Cf where
 K := KK P
 globs := gLw
 fns := []
 cls := []
 sps := [treeSp, wrSp 3, lrSp 3, wordSp]
theorem cokLw (w : World) : CfOk w (cfLw w.params) := ⟨mem_nil, mem_nil, globs_of (gokLw _), mem_cons' (tree_ok rfl rfl) <| mem_cons' (wr_ok 3 (by decide) rfl rfl) <| mem_cons' (lr_ok 3 (by decide) rfl rfl) <| mem_cons' (word_ok rfl rfl) mem_nil, mem_nil, mem_nil⟩
theorem law_1 (P : Params) (d : PyData) (k : Kt) : ev (cfLw P) 600 ns810 (.sts (fBody s810)) ⟨[("script", .dat d)], [.tab 746]⟩ k =
   treeF [.dat d] ⟨[("script", .dat d)], [.tab 746]⟩ (fun r st => match r with
     | .v y => ev (cfLw P) 599 ns810 (.sts ((fBody s810).drop 1)) { st with loc := put "tree" y st.loc } k
     | _ => False) := by
  kernel_rfl
theorem law_2 (P : Params) (d t : PyData) (k : Kt) : ev (cfLw P) 599 ns810 (.sts ((fBody s810).drop 1)) ⟨[("script", .dat d), ("tree", .dat t)], [.tab 746]⟩ k =
   wrF 3 [.dat t, .obj 1] ⟨[("script", .dat d), ("tree", .dat t), ("lines", .obj 1)], [.tab 746, .list []]⟩ (fun r st => match r with
     | .v y => ev (cfLw P) 597 ns810 (.sts ((fBody s810).drop 3)) { st with loc := put "text" y st.loc } k
     | _ => False) := by
  kernel_rfl
noncomputable def fr810 : Stmt := stAt 3 (fBody s810)
noncomputable abbrev lwLoc (d t : PyData) (x : Str) : List (Str × SV) := [("script", .dat d), ("tree", .dat t), ("lines", .obj 1), ("text", .str x)]
theorem law_3 (P : Params) (d t : PyData) (x : Str) (ls : List SV) (k : Kt) : ev (cfLw P) 597 ns810 (.sts ((fBody s810).drop 3)) ⟨lwLoc d t x, [.tab 746, .list ls]⟩ k =
   forE (bindT ns810 (forTgt fr810)) (fun st k => ev (cfLw P) 595 ns810 (.sts (forBody fr810)) st k) (.obj 1) ls (.it true (.obj 1)) 2 0 ls ⟨lwLoc d t x, [.tab 746, .list ls, .it true (.obj 1) 0]⟩ (thenT (fun st k => ev (cfLw P) 596 ns810 (.sts ((fBody s810).drop 4)) st k) k) := by
  kernel_rfl
noncomputable def ifL : Stmt := stAt 0 (forBody fr810)
noncomputable def lcLw : Expr := arg0 (cmpRh (ifTest ifL))
noncomputable def cnLw : List (Str × NameKind) := relab (lcSc lcLw).names
noncomputable def tgLw : List Expr := match forTgt fr810 with
 | .Tuple es _ _ => es
 | _ => []
theorem law_tg (x : SV) (st : St) (k : St → Prop) : bindT ns810 (forTgt fr810) x st k = ∃ b xs, seqOf st x = some (b, xs) ∧ xs.length = tgLw.length ∧ bindsT ns810 tgLw xs st k := by
 kernel_rfl
theorem law_tg2 : tgLw.length = 2 ∧ ∀ (a b : SV) (st : St) (k : St → Prop), bindsT ns810 tgLw [a, b] st k = k { st with loc := put "line" b (put "words" a st.loc) } := ⟨by kernel_rfl, fun a b st k => by kernel_rfl⟩
theorem law_turn (P : Params) (d t : PyData) (x line : Str) (ws : List PyData) (ls : List SV) (it : SO) (k : Kt) : ev (cfLw P) 595 ns810 (.sts (forBody fr810)) ⟨lwLoc d t x ++ [(("words" : Str), .dat (.list ws)), ("line", .str line)], [.tab 746, .list ls, it]⟩ k =
   compE (bindT cnLw (lcTgt lcLw)) none (fun st k => ev (cfLw P) 588 cnLw (.ex (lcElt lcLw)) st k) (.dat (.list ws)) (ws.map svOf) (.it true (.dat (.list ws))) 3 4 0 (ws.map svOf)
     ⟨[], [.tab 746, .list ls, it] ++ [.it true (.dat (.list ws)) 0, .list []]⟩
     (fun stE => CompFin (lwLoc d t x ++ [(("words" : Str), .dat (.list ws)), ("line", .str line)]) 3 4 stE fun v st₁ => listDat st₁ v fun ds => ∃ ts : List Str, ds = ts.map .str ∧ JoinOk " " ts = true ∧ (Txt.join " " ts).length ≤ sizeLine ∧
       ifT (!(Fast.sEq line (Txt.join " " ts))) (ev (cfLw P) 593 ns810 (.sts (ifBody ifL)) st₁ (nxt k)) (k .next st₁)) := by
  kernel_rfl
theorem law_elt (P : Params) (b : Str) (l : List SO) (K : Kt) (D : St → Prop) : bindT cnLw (lcTgt lcLw) (.str b) ⟨[], l⟩ (fun st₁ => testE none st₁ fun c st₂ => ifT c (ev (cfLw P) 588 cnLw (.ex (lcElt lcLw)) st₂ K) (D st₂)) =
   (b.length ≤ 1000000 ∧ PyData.strOk b = true ∧ K (.v (.str (wordT b))) ⟨[("word", .str b)], l⟩) := by
  kernel_rfl
theorem law_4 (P : Params) (d t : PyData) (x : Str) (l : List SO) (k : Kt) : ev (cfLw P) 596 ns810 (.sts ((fBody s810).drop 4)) ⟨lwLoc d t x, l⟩ k =
   lrF 3 [.str x, .int 4] ⟨lwLoc d t x, l⟩ (fun r st => match r with
     | .v y => ev (cfLw P) 593 ns810 (.ex (cmpRh (rVal (stAt 4 (fBody s810))))) st fun r st₂ => match r with
       | .v z => cmpA 593 st₂ .Eq y z fun c => k (.ret (.bool c)) st₂
       | _ => False
     | _ => False) := by
  kernel_rfl
theorem law_nm (P : Params) (d t : PyData) (x : Str) (l : List SO) (k : Kt) : ev (cfLw P) 593 ns810 (.ex (cmpRh (rVal (stAt 4 (fBody s810))))) ⟨lwLoc d t x, l⟩ k = k (.v (.dat t)) ⟨lwLoc d t x, l⟩ := by
 kernel_rfl
theorem signAt_mem (i : Int) (h0 : 0 ≤ i) (h1 : i < 12) : signAt i ∈ alpha.cps.toList := by
 have hl : alpha.cps.toList.length = 12 := by rfl
 unfold signAt
 have : i.toNat < alpha.cps.toList.length := by rw [hl]; lia
 have e : alpha.cps.toList.getD i.toNat 0 = alpha.cps.toList[i.toNat] := by
  generalize alpha.cps.toList = l at this
  simp [this]
 rw [e]
 exact List.getElem_mem this
theorem txtN_mem : ∀ (n : Nat) (m : Int), ∀ c ∈ txtN n m, c ∈ alpha.cps.toList
 | 0, _, c, h => absurd h List.not_mem_nil
 | n + 1, m, c, h => by
  rcases List.mem_cons.mp h with rfl | h
  ·exact signAt_mem _ (Int.fmod_nonneg_of_pos m (by decide)) (Int.fmod_lt_of_pos m (by decide))
  ·exact txtN_mem n _ c h
theorem txtN_len : ∀ (n : Nat) (m : Int), (txtN n m).length = n
 | 0, _ => rfl
 | n + 1, m => by show (txtN n _).length + 1 = _; rw [txtN_len n]
theorem leafD_ok (x : Int) : LeafOk (leafD x) := by
 refine ⟨leafN (x.fdiv 8), rfl, ?_, txtN_mem _ _⟩
 unfold leafN
 rw [txtN_len]
 have := Int.fmod_lt_of_pos (x.fdiv 8) (show (0 : Int) < 3 by decide)
 omega
theorem kindS_ok (x : Int) (h : x.fmod 8 < 4) : kindS x = "s" ∨ kindS x = "h" ∨ kindS x = "e" ∨ kindS x = "d" := by
 unfold kindS
 have h0 : 0 ≤ x.fmod 8 := Int.fmod_nonneg_of_pos x (by decide)
 generalize x.fmod 8 = i at h h0
 have : i = 0 ∨ i = 1 ∨ i = 2 ∨ i = 3 := by lia
 rcases this with rfl | rfl | rfl | rfl
 ·exact .inl (by rfl)
 ·exact .inr (.inl (by rfl))
 ·exact .inr (.inr (.inl (by rfl)))
 ·exact .inr (.inr (.inr (by rfl)))
noncomputable def KdOk (k : Str) : Prop := k = "s" ∨ k = "h" ∨ k = "e" ∨ k = "d"
theorem leaf_tree (m : Nat) {d : PyData} (h : LeafOk d) : TreeOk m d := by
 cases m with
 | zero => exact h
 | succ m => exact .inl h
inductive TSok : TS → Nat → Prop
 | one {k : Str} {r : List PyData} {j : Nat} : KdOk k → (∀ x ∈ r, TreeOk 2 x) → r.length ≤ j → TSok (.one (.str k :: r)) j
 | two {k k2 : Str} {r a : List PyData} {j : Nat} : KdOk k → KdOk k2 → (∀ x ∈ r, TreeOk 2 x) → (∀ x ∈ a, TreeOk 1 x) → r.length + 1 + a.length ≤ j → TSok (.two (.str k :: r) (.str k2 :: a)) j
 | three {k k2 k3 : Str} {r a b : List PyData} {j : Nat} : KdOk k → KdOk k2 → KdOk k3 → (∀ x ∈ r, TreeOk 2 x) → (∀ x ∈ a, TreeOk 1 x) → (∀ x ∈ b, TreeOk 0 x) → r.length + 1 + a.length + 1 + b.length ≤ j → TSok (.three (.str k :: r) (.str k2 :: a) (.str k3 :: b)) j
theorem all_snoc {p : PyData → Prop} {l : List PyData} {d : PyData} (h : ∀ x ∈ l, p x) (hd : p d) : ∀ x ∈ l ++ [d], p x := fun x hx => by
 rcases List.mem_append.mp hx with hx | hx
 ·exact h x hx
 ·rw [List.mem_singleton.mp hx]; exact hd
theorem tstep_ok (x : Int) {t : TS} {j : Nat} (h : TSok t j) (hj : j < 6) : TSok (tstep x t) (j + 1) := by
 cases h with
 | one hk hr hl =>
  unfold tstep
  dsimp only
  split
  ·rename_i h4
   exact .two hk (kindS_ok x h4) hr (fun _ hx => absurd hx List.not_mem_nil) (by rw [List.length_nil]; lia)
  ·split
   ·exact .one hk hr (by lia)
   ·exact .one hk (all_snoc hr (leaf_tree 2 (leafD_ok x))) (by simp; lia)
 | two hk hk2 hr ha hl =>
  unfold tstep
  dsimp only
  split
  ·rename_i h4
   exact .three hk hk2 (kindS_ok x h4) hr ha (fun _ hx => absurd hx List.not_mem_nil) (by rw [List.length_nil]; lia)
  ·split
   ·exact .one hk (all_snoc hr (.inr ⟨_, _, rfl, hk2, by lia, ha⟩)) (by simp; lia)
   ·exact .two hk hk2 hr (all_snoc ha (leaf_tree 1 (leafD_ok x))) (by simp; lia)
 | three hk hk2 hk3 hr ha hb hl =>
  unfold tstep
  dsimp only
  split
  ·exact .two hk hk2 hr (all_snoc ha (.inr ⟨_, _, rfl, hk3, by lia, hb⟩)) (by simp; lia)
  ·exact .three hk hk2 hk3 hr ha (all_snoc hb (leaf_tree 0 (leafD_ok x))) (by simp; lia)
theorem fold_ok : ∀ (rest : List Int) (t : TS) (j : Nat), TSok t j → j + rest.length ≤ 6 → TSok (rest.foldl (fun t x => tstep x t) t) (j + rest.length)
 | [], t, j, h, _ => h
 | x :: r, t, j, h, hl => by
  rw [List.length_cons] at hl ⊢
  rw [List.foldl_cons, show j + (r.length + 1) = j + 1 + r.length by lia]
  exact fold_ok r _ (j + 1) (tstep_ok x h (by lia)) (by lia)
theorem fin_ok {t : TS} {j : Nat} (h : TSok t j) (hj : j ≤ 6) : TreeOk 3 t.fin := by
 cases h with
 | one hk hr hl => exact .inr ⟨_, _, rfl, hk, by lia, hr⟩
 | two hk hk2 hr ha hl => exact .inr ⟨_, _, rfl, hk, by simp; lia, all_snoc hr (.inr ⟨_, _, rfl, hk2, by lia, ha⟩)⟩
 | three hk hk2 hk3 hr ha hb hl => exact .inr ⟨_, _, rfl, hk, by simp; lia, all_snoc hr (.inr ⟨_, _, rfl, hk2, by simp; lia, all_snoc ha (.inr ⟨_, _, rfl, hk3, by lia, hb⟩)⟩)⟩
theorem treeOf_ok (xs : List Int) : TreeOk 3 (treeOf xs) := by
 unfold treeOf
 have hk : KdOk (if xs.length % 2 = 0 then "s" else "h") := by
  split
  ·exact .inl rfl
  ·exact .inr (.inl rfl)
 have h0 : TSok (.one [.str (if xs.length % 2 = 0 then "s" else "h")]) 0 := .one hk (fun _ hx => absurd hx List.not_mem_nil) (Nat.le_refl _)
 have hl : 0 + (xs.take 6).length ≤ 6 := by rw [List.length_take]; omega
 exact fin_ok (fold_ok (xs.take 6) _ 0 h0 hl) hl
theorem treeOf_dat (xs : List Int) : ∃ l, treeOf xs = .list l := by
 unfold treeOf
 generalize (xs.take 6).foldl _ _ = t
 cases t <;> exact ⟨_, rfl⟩
noncomputable def Cp (l : List Nat) : Prop := ∀ c ∈ l, c < 0x110000
theorem cp_app {a b : List Nat} (h1 : Cp a) (h2 : Cp b) : Cp (a ++ b) := fun c hc => by
 rcases List.mem_append.mp hc with h | h
 ·exact h1 c h
 ·exact h2 c h
theorem cp_cons {c : Nat} {a : List Nat} (h1 : c < 0x110000) (h2 : Cp a) : Cp (c :: a) := fun d hd => by
 rcases List.mem_cons.mp hd with rfl | h
 ·exact h1
 ·exact h2 d h
theorem cp_nil : Cp [] := fun c hc => absurd hc List.not_mem_nil
theorem cp_strOk {l : List Nat} (h : Cp l) : PyData.strOk (tx l) = true := by
 unfold PyData.strOk
 rw [← Array.all_toList, List.all_eq_true]
 intro c hc
 rw [tx_cps] at hc
 exact decide_eq_true (h c hc)
theorem alpha_cp {c : Nat} (h : c ∈ alpha.cps.toList) : c < 0x110000 := by
 have : alpha.cps.toList.all (fun n => decide (n < 0x110000)) = true := by decide +kernel
 exact of_decide_eq_true (List.all_eq_true.mp this c h)
theorem cp_esc {l : List Nat} (h : Cp l) : Cp (escS l) := fun c hc => by
 obtain ⟨d, hd, hc⟩ := List.mem_flatMap.mp hc
 split at hc
 ·simp only [List.mem_cons, List.not_mem_nil, or_false] at hc
  rcases hc with rfl | rfl
  ·decide
  ·exact h _ hd
 ·rw [List.mem_singleton.mp hc]; exact h _ hd
theorem cp_mark {l : List Nat} (h : Cp l) : Cp (markS l) := cp_cons (by decide) (cp_app (cp_esc h) (cp_cons (by decide) cp_nil))
theorem cp_quo {l : List Nat} (h : Cp l) : Cp (quo l) := cp_cons (by decide) (cp_app h (cp_cons (by decide) cp_nil))
theorem cp_rep {l : List Nat} (h : Cp l) : Cp (repL 39 qm l) := fun c hc => by
 unfold repL at hc
 obtain ⟨d, hd, hc⟩ := List.mem_flatMap.mp hc
 split at hc
 ·have : qm.all (fun n => decide (n < 0x110000)) = true := by decide
  exact of_decide_eq_true (List.all_eq_true.mp this c hc)
 ·rw [List.mem_singleton.mp hc]; exact h _ hd
theorem cp_word {l : List Nat} (h : Cp l) : Cp (wordS l) := by
 unfold wordS
 split
 ·exact h
 ·exact cp_cons (by decide) (cp_app (cp_rep h) (cp_cons (by decide) cp_nil))
theorem cp_join {s : List Nat} (hs : Cp s) : ∀ {ws : List (List Nat)}, (∀ w ∈ ws, Cp w) → Cp (joinL s ws)
 | [], _ => cp_nil
 | [x], h => h x (.head _)
 | x :: y :: r, h => cp_app (h x (.head _)) (cp_app hs (cp_join hs fun w hw => h w (.tail _ hw)))
theorem cp_line {ws : List (List Nat)} (h : ∀ w ∈ ws, Cp w) : Cp (lineS ws) := by
 rw [lineS_joinL]
 refine cp_join (cp_cons (by decide) cp_nil) fun w hw => ?_
 obtain ⟨x, hx, rfl⟩ := List.mem_map.mp hw
 exact cp_word (h x hx)
theorem cp_keyed {f : List Nat → List Nat} {ts : List (List Nat)} (hf : ∀ t, Cp t → Cp (f t)) (h : ∀ t ∈ ts, Cp t) (hn : ts.length ≤ 1000) : ∀ w ∈ keyed f ts, Cp w := fun w hw => by
 obtain ⟨i, t, hi, ht, rfl⟩ := keyed_mem hw
 exact cp_cons (by decide) (cp_cons (by lia) (cp_cons (by decide) (hf t (h t ht))))
noncomputable def LnOk (l : Ln) : Prop := l.2 = lineS l.1 ∧ l.1.length ≤ 10 ∧ ∀ w ∈ l.1, Cp w ∧ w.length ≤ 100000
theorem wr_cp : ∀ (m : Nat) {d : PyData}, m ≤ 3 → TreeOk m d → Cp (wr m d).1 ∧ ∀ l ∈ (wr m d).2, LnOk l
 | m, d, hm, h => by
  have leaf : ∀ m, LeafOk d → Cp (wr m d).1 ∧ ∀ l ∈ (wr m d).2, LnOk l := fun m h => by
   obtain ⟨t, rfl, _, ht⟩ := h
   rw [wr_leafEq m rfl]
   refine ⟨?_, fun l hl => absurd hl List.not_mem_nil⟩
   show Cp (if (tx t).cps.toList = [] then [] else 108 :: (tx t).cps.toList)
   rw [tx_cps]
   split
   ·exact cp_nil
   ·exact cp_cons (by decide) fun c hc => alpha_cp (ht c hc)
  cases m with
  | zero => exact leaf 0 h
  | succ m =>
   rcases h with h | ⟨k, kids, rfl, hk, hn, hkids⟩
   ·exact leaf (m + 1) h
   ·have ih : ∀ x ∈ kids, Cp (wr m x).1 ∧ ∀ l ∈ (wr m x).2, LnOk l := fun x hx => wr_cp m (by lia) (hkids x hx)
    rw [wr_list]
    have hts : ∀ t ∈ kids.map (fun x => (wr m x).1), Cp t ∧ t.length ≤ 90000 := fun t ht => by
     obtain ⟨x, hx, rfl⟩ := List.mem_map.mp ht
     refine ⟨(ih x hx).1, ?_⟩
     have h1 := wr_len m (hkids x hx)
     have h2 := bndT_mono (show m ≤ 2 by lia)
     have : bndT 2 = 8900 := rfl
     lia
    have hls : ∀ l ∈ kids.flatMap (fun x => (wr m x).2), LnOk l := fun l hl => by
     obtain ⟨x, hx, hl⟩ := List.mem_flatMap.mp hl
     exact (ih x hx).2 l hl
    have hnt : (kids.map fun x => (wr m x).1).length ≤ 6 := by rw [List.length_map]; exact hn
    generalize kids.map (fun x => (wr m x).1) = ts at hts hnt
    generalize kids.flatMap (fun x => (wr m x).2) = ls at hls
    have c2 : Cp [44, 32] := cp_cons (by decide) (cp_cons (by decide) cp_nil)
    have line : ∀ ws : List (List Nat), ws.length ≤ 10 → (∀ w ∈ ws, Cp w ∧ w.length ≤ 100000) → Cp (lineS ws) ∧ ∀ l ∈ ls ++ [(ws, lineS ws)], LnOk l := fun ws hw hws => by
     refine ⟨cp_line fun w hx => (hws w hx).1, fun l hl => ?_⟩
     rcases List.mem_append.mp hl with hl | hl
     ·exact hls l hl
     ·rw [List.mem_singleton.mp hl]; exact ⟨rfl, hw, hws⟩
    split
    ·refine ⟨cp_join c2 fun w hw => ?_, hls⟩
     rcases List.mem_cons.mp hw with rfl | hw
     ·exact cp_cons (by decide) cp_nil
     ·obtain ⟨t, ht, rfl⟩ := List.mem_map.mp hw
      exact cp_mark (hts t ht).1
    ·split
     ·refine ⟨cp_join c2 fun w hw => ?_, hls⟩
      rcases List.mem_cons.mp hw with rfl | hw
      ·exact cp_cons (by decide) (cp_cons (by decide) (cp_cons (by decide) cp_nil))
      ·exact cp_keyed (fun t => cp_mark) (fun t ht => (hts t ht).1) (by lia) w hw
     ·split
      ·refine line _ (by rw [List.length_cons]; lia) fun w hw => ?_
       rcases List.mem_cons.mp hw with rfl | hw
       ·exact ⟨cp_cons (by decide) cp_nil, by decide⟩
       ·exact ⟨(hts w hw).1, Nat.le_trans (hts w hw).2 (by decide)⟩
      ·refine line _ (by rw [List.length_cons, keyed_len]; lia) fun w hw => ?_
       rcases List.mem_cons.mp hw with rfl | hw
       ·exact ⟨cp_cons (by decide) (cp_cons (by decide) (cp_cons (by decide) cp_nil)), by decide⟩
       ·refine ⟨cp_keyed (fun t => cp_quo) (fun t ht => (hts t ht).1) (by lia) w hw, ?_⟩
        obtain ⟨i, t, hi, ht, rfl⟩ := keyed_mem hw
        have := (hts t ht).2
        simp only [List.length_cons, quo, List.length_append, List.length_nil]
        lia
theorem canLayAll_of : ∀ {l : List PyData}, (∀ x ∈ l, PyData.canLay0 x = true) → PyData.canLayAll0 l = true
 | [], _ => rfl
 | x :: r, h => by
  show (PyData.canLay0 x && PyData.canLayAll0 r) = true
  rw [h x (.head _), canLayAll_of fun y hy => h y (.tail _ hy)]; rfl
theorem depthAll_of {n : Nat} : ∀ {l : List PyData}, (∀ x ∈ l, PyData.depth x ≤ n) → PyData.depthAll l ≤ n
 | [], _ => Nat.zero_le _
 | x :: r, h => by
  show max (PyData.depth x) (PyData.depthAll r) ≤ n
  exact Nat.max_le.mpr ⟨h x (.head _), depthAll_of fun y hy => h y (.tail _ hy)⟩
theorem tree_lay : ∀ (m : Nat) {d : PyData}, TreeOk m d → PyData.canLay0 d = true ∧ PyData.depth d ≤ m
 | m, d, h => by
  have leaf : LeafOk d → PyData.canLay0 d = true ∧ PyData.depth d ≤ m := fun h => by
   obtain ⟨t, rfl, _, ht⟩ := h
   exact ⟨cp_strOk fun c hc => alpha_cp (ht c hc), Nat.zero_le _⟩
  cases m with
  | zero => exact leaf h
  | succ m =>
   rcases h with h | ⟨k, kids, rfl, hk, hn, hkids⟩
   ·exact leaf h
   ·have ih : ∀ x ∈ kids, PyData.canLay0 x = true ∧ PyData.depth x ≤ m := fun x hx => tree_lay m (hkids x hx)
    refine ⟨canLayAll_of (l := .str k :: kids) fun x hx => ?_, ?_⟩
    ·rcases List.mem_cons.mp hx with rfl | hx
     ·rcases hk with rfl | rfl | rfl | rfl <;> decide +kernel
     ·exact (ih x hx).1
    ·rw [PyData.depth]
     have := depthAll_of (n := m) (l := .str k :: kids) fun x hx => by
      rcases List.mem_cons.mp hx with rfl | hx
      ·exact Nat.zero_le _
      ·exact (ih x hx).2
     omega
theorem sum_ls (m B : Nat) : ∀ kids : List PyData, (∀ x ∈ kids, (wr m x).2.length ≤ B) → (kids.flatMap fun x => (wr m x).2).length ≤ kids.length * B
 | [], _ => Nat.zero_le _
 | x :: r, h => by
  have h1 := h x (.head _)
  have h2 := sum_ls m B r fun y hy => h y (.tail _ hy)
  rw [List.flatMap_cons, List.length_append, List.length_cons, Nat.add_mul]
  omega
noncomputable def bndL : Nat → Nat
 | 0 => 0
 | m + 1 => 6 * bndL m + 1
theorem wr_lines : ∀ (m : Nat) {d : PyData}, TreeOk m d → (wr m d).2.length ≤ bndL m
 | 0, d, h => by
  obtain ⟨t, e, _⟩ := h
  rw [wr_leafEq 0 e]; exact Nat.zero_le _
 | m + 1, d, h => by
  rcases h with h | ⟨k, kids, rfl, hk, hn, hkids⟩
  ·obtain ⟨t, e, _⟩ := h
   rw [wr_leafEq (m + 1) e]; exact Nat.zero_le _
  ·have h1 := sum_ls m (bndL m) kids fun x hx => wr_lines m (hkids x hx)
   have h2 : kids.length * bndL m ≤ 6 * bndL m := Nat.mul_le_mul_right _ hn
   rw [wr_list]
   show _ ≤ 6 * bndL m + 1
   split
   ·show (kids.flatMap fun x => (wr m x).2).length ≤ _; lia
   ·split
    ·show (kids.flatMap fun x => (wr m x).2).length ≤ _; lia
    ·split <;> (show ((kids.flatMap fun x => (wr m x).2) ++ [_]).length ≤ _; rw [List.length_append]; show _ + 1 ≤ _; lia)
theorem words_join (ws : List (List Nat)) : Txt.join " " ((ws.map wordS).map tx) = tx (lineS ws) := by
 rw [txjoin, List.map_map]
 exact join_lineS ws
theorem law_loop (P : Params) (d t : PyData) (x : Str) (all : List SV) (K : Kt) (hK : K .next ⟨lwLoc d t x, [.tab 746, .list all, .gone]⟩) : ∀ (rest : List Ln) (j : Nat), (∀ l ∈ rest, LnOk l) → (∀ n led, SvsT n led all all) →
  forE (bindT ns810 (forTgt fr810)) (fun st k => ev (cfLw P) 595 ns810 (.sts (forBody fr810)) st k) (.obj 1) all (.it true (.obj 1)) 2 j ((rest.map lineD).map svOf) ⟨lwLoc d t x, [.tab 746, .list all, .it true (.obj 1) j]⟩ K := by
 intro rest
 induction rest with
 | nil =>
  intro j _ _
  exact ⟨rfl, rfl, hK⟩
 | cons l r ih =>
  intro j h hall
  obtain ⟨hl, hn, hw⟩ := h l (.head _)
  refine ⟨rfl, rfl, ?_⟩
  show bindT ns810 (forTgt fr810) (.dat (lineD l)) ⟨lwLoc d t x, [.tab 746, .list all, .it true (.obj 1) (j + 1)]⟩ _
  rw [law_tg]
  refine ⟨false, [.dat (.list (strsD l.1)), .str (tx l.2)], rfl, law_tg2.1.symm, ?_⟩
  rw [law_tg2.2]
  show ev (cfLw P) 595 ns810 (.sts (forBody fr810)) ⟨lwLoc d t x ++ [(("words" : Str), .dat (.list (strsD l.1))), ("line", .str (tx l.2))], [.tab 746, .list all, .it true (.obj 1) (j + 1)]⟩ _
  rw [law_turn]
  have okl : okF 3 (lwLoc d t x ++ [(("words" : Str), .dat (.list (strsD l.1))), ("line", .str (tx l.2))]) := ⟨trivial, trivial, by show 1 < 3; lia, trivial, trivial, trivial, trivial⟩
  refine comp_gen (src := .dat (.list (strsD l.1))) (all := (strsD l.1).map svOf) (slot := .it true (.dat (.list (strsD l.1)))) (pre := [.tab 746, .list all, .it true (.obj 1) (j + 1)]) (fl := []) (lwLoc d t x ++ [(("words" : Str), .dat (.list (strsD l.1))), ("line", .str (tx l.2))]) _ (fun i => (l.1[i]?).map fun w => .str (tx (wordS w)))
   (fun n led h => .cons .tab (.cons (.list (hall _ _)) (.cons (.it (.keep (by have : 3 ≤ n := h; lia))) .nil))) trivial okl (fun _ _ _ _ => .it (.same trivial)) (fun a b => rfl) (by rw [strsD_map_len, sizeLine_eq]; lia) (fun i y zs K' Dd hx hK' hD => ?_) ?_
  ·rw [strsD_get, Option.map_eq_some_iff] at hx
   obtain ⟨w, hw1, rfl⟩ := hx
   obtain ⟨c1, c2⟩ := hw w (List.mem_of_getElem? hw1)
   show bindT cnLw (lcTgt lcLw) (.str (tx w)) ⟨[], _⟩ _
   rw [law_elt]
   refine ⟨by rw [tx_len]; lia, cp_strOk c1, ?_⟩
   have hs := hK' (.str (tx (wordS w))) (by rw [hw1]; rfl) [("word", .str (tx w))] []
   have e : wordT (tx w) = tx (wordS w) := by
    show tx (wordS (tx w).cps.toList) = _
    rw [tx_toList]
   rw [e]
   exact hs
  ·rw [strsD_map_len, filterMap_signs']
   have hsum := sum_le (fun w => (wordS w).length) (5 * 100000 + 2) l.1 fun w hx => by
    have := wordS_len w; have := (hw w hx).2; lia
   have hm : l.1.length * (5 * 100000 + 2) ≤ 10 * (5 * 100000 + 2) := Nat.mul_le_mul_right _ hn
   have hll := lineS_len 100000 l.1 fun w hx => (hw w hx).2
   refine ⟨(l.1.map wordS).map tx, by unfold strsD; rw [List.map_map, List.map_map, List.map_map]; rfl, joinOk_of ?_, ?_, ?_⟩
   ·rw [lens_tx, List.length_map, List.length_map, List.map_map]
    have : (" " : Str).length = 1 := by rfl
    rw [this]
    have e : (l.1.map (List.length ∘ wordS)).sum = (l.1.map fun w => (wordS w).length).sum := rfl
    rw [e]
    lia
   ·rw [words_join, tx_len, sizeLine_eq]; lia
   ·rw [words_join, hl, sEq_self]
    show ∃ st₃, Trim 3 ⟨lwLoc d t x ++ _, _⟩ st₃ ∧ _
    refine ⟨⟨lwLoc d t x, [.tab 746, .list all, .it true (.obj 1) (j + 1)]⟩, ?_, ?_⟩
    ·exact trimK (n := 3) (loc := lwLoc d t x) ⟨trivial, trivial, by show 1 < 3; lia, trivial, trivial⟩ (.cons .tab (.cons (.list (hall _ _)) (.cons (.it (.keep (by lia))) .nil)))
    ·exact ih (j + 1) (fun y hy => h y (.tail _ hy)) hall
theorem law_body (P : Params) (xs : List Int) (hlen : xs.length ≤ 1000) (k : Kt) (hk : ∀ loc l, k (.ret (.bool true)) ⟨loc, .tab 746 :: l⟩) : ev (cfLw P) 600 ns810 (.sts (fBody s810)) ⟨[("script", .dat (.list (xs.map .int)))], [.tab 746]⟩ k := by
 rw [law_1]
 refine ⟨xs, rfl, hlen, ?_⟩
 have htree := treeOf_ok xs
 obtain ⟨tl, ht⟩ := treeOf_dat xs
 rw [ht] at htree ⊢
 show ev (cfLw P) 599 ns810 (.sts ((fBody s810).drop 1)) ⟨[("script", .dat (.list (xs.map .int))), ("tree", .dat (.list tl))], [.tab 746]⟩ k
 rw [law_2]
 have hls := wr_lines 3 htree
 have e43 : bndL 3 = 43 := rfl
 refine ⟨.list tl, [], [], rfl, htree, rfl, by rw [List.length_nil]; lia, ?_⟩
 obtain ⟨hcp, hlines⟩ := wr_cp 3 (by lia) htree
 show ev (cfLw P) 597 ns810 (.sts ((fBody s810).drop 3)) ⟨lwLoc (.list (xs.map .int)) (.list tl) (tx (wr 3 (.list tl)).1), [.tab 746, .list (((wr 3 (.list tl)).2.map lineD).map svOf)]⟩ k
 rw [law_3]
 refine law_loop P _ _ _ _ _ ?_ (wr 3 (.list tl)).2 0 hlines fun n led => svsT_svOf _ _ _
 rw [thenT_next, law_4]
 refine ⟨.list tl, htree, rfl, ?_⟩
 show ev (cfLw P) 593 ns810 (.ex (cmpRh (rVal (stAt 4 (fBody s810))))) ⟨lwLoc _ _ _, _⟩ _
 rw [law_nm]
 show cmpA 593 _ .Eq (.dat (.list tl)) (.dat (.list tl)) _
 rw [cmpA_eq]
 obtain ⟨h1, h2⟩ := tree_lay 3 htree
 refine eqD_of (d := .list tl) (e := .list tl) rfl rfl (by decide) h1 h1 (by rw [Nat.min_self]; lia) ?_
 rw [PySem.SeqAt.eqv_refl _ h1]
 exact hk _ _
set_option maxHeartbeats 200000
noncomputable def buildT : List Obj → BT → Nat → Option BT
 | [], t, _ => some t
 | o :: r, t, n => match ((t.ins n o).get n).isSome with
  | true => buildT r (t.ins n o) (n + 1)
  | false => none
theorem buildT_spec (life : Life) : ∀ (l : List Obj) (t T : BT) (n : Nat) (pre : List Obj), buildT l t n = some T → absHeap t n life = ⟨pre.toArray, life⟩ →
  absHeap T (n + l.length) life = ⟨(pre ++ l).toArray, life⟩
 | [], t, T, n, pre, h, e => by
  simp only [buildT, Option.some.injEq] at h
  subst h
  simpa using e
 | o :: r, t, T, n, pre, h, e => by
  unfold buildT at h
  cases q : ((t.ins n o).get n).isSome with
  | false => rw [q] at h; cases h
  | true =>
   rw [q] at h
   have e' : absHeap (t.ins n o) (n + 1) life = ⟨(pre ++ [o]).toArray, life⟩ := by
    rw [absHeap_ins q, e]
    show Heap.mk _ _ = Heap.mk _ _
    simp
   have z := buildT_spec life r _ T (n + 1) (pre ++ [o]) h e'
   rw [List.length_cons, show n + (r.length + 1) = n + 1 + r.length by lia, z]
   simp
noncomputable def topRunT (ok : Thread → Bool) (st : SharedT → Thread → Option (SharedT × Thread)) : Nat → SharedT → Thread → Option SharedT
 | 0, _, _ => none
 | n + 1, s, t => match through t with
  | true => some s
  | false => match ok t with
   | false => none
   | true => match st s t with
    | some (s', t') => topRunT ok st n s' t'
    | none => none
theorem topRunT_of {p : Program} {w : World} {n₀ : Nat} {ann : Option Value} : ∀ {n : Nat} {s s' : SharedT} {t : Thread}, topRunT (stepOk n₀ ann) (stepT (denote treeTable) p w) n s t = some s' → topRun treeTable p w n₀ ann n s.abs t = some s'.abs
 | 0, _, _, _, h => by cases h
 | n + 1, s, s', t, h => by
  unfold topRunT at h
  unfold topRun
  cases he : through t with
  | true => rw [he] at h; cases h; rfl
  | false =>
   rw [he] at h
   cases hk : stepOk n₀ ann t with
   | false => rw [hk] at h; cases h
   | true =>
    rw [hk] at h
    cases hs : stepT (denote treeTable) p w s t with
    | none => rw [hs] at h; cases h
    | some r => obtain ⟨s₂, t₂⟩ := r; rw [hs] at h; rw [stepT_spec hs]; exact topRunT_of h
noncomputable def startT (p : Program) : SharedT := ⟨.nil, 0, {}, #[], {}, 1, (start (opening p)).1.os⟩
theorem startT_abs (p : Program) : (startT p).abs = (start (opening p)).1 := rfl
noncomputable def topW (ok : Nat → Option Value → Thread → Bool) (st : SharedT → Thread → Option (SharedT × Thread)) (p : Program) (m : Nat) (s0 : Shared) : Option SharedT :=
 match buildT s0.heap.objs.toList .nil 0 with
 | none => none
 | some T => topRunT (ok s0.heap.objs.size (s0.heap.nsMap mainGlobals "__annotations__")) st m ⟨T, s0.heap.objs.size, s0.heap.life, s0.gens, s0.drawn, s0.toks, s0.os⟩ (topStub p)
noncomputable def allRun (ig : Nat → SharedT → Thread → Option (SharedT × Thread)) (t0 : Thread) (fm : Shared → Option Shared) (ok : Nat → Option Value → Thread → Bool) (st : SharedT → Thread → Option (SharedT × Thread)) (p : Program) (n m : Nat) : Option (Shared × SharedT) :=
 match ig n (startT p) t0 with
 | none => none
 | some (S1, t1) => match t1.atExitBegin with
  | some [] => match fm S1.abs with
   | none => none
   | some s0 => match topW ok st p m s0 with
    | none => none
    | some S => some (s0, S)
  | _ => none
theorem allRun_spec {p : Program} {w : World} {n m N : Nat} {s0 : Shared} {S : SharedT} (h : allRun (impGoT treeTable (opening p) w) (start (opening p)).2 (fenceModules? p) stepOk (stepT (denote treeTable) p w) p n m = some (s0, S)) (hn : n + 1 ≤ N) (hm : m ≤ N) :
  fencedOpening treeTable p w N = some s0 ∧ topRun treeTable p w s0.heap.objs.size (s0.heap.nsMap mainGlobals "__annotations__") N s0 (topStub p) = some S.abs := by
 unfold allRun at h
 split at h
 ·cases h
 ·rename_i S1 t1 h1
  split at h
  ·rename_i he
   split at h
   ·cases h
   ·rename_i s1 hf
    split at h
    ·cases h
    ·rename_i S2 ht
     cases h
     constructor
     ·have i1 := impGo_of h1
      rw [startT_abs] at i1
      have e1 : importEnds treeTable (opening p) w 1 S1.abs t1 = some S1.abs := by
       unfold importEnds; rw [he]
      have i2 := imp_go i1 e1
      have i3 := importEnds_mono (N - (n + 1)) _ _ _ _ i2
      rw [show n + 1 + (N - (n + 1)) = N by omega] at i3
      unfold fencedOpening
      rw [i3]
      exact hf
     ·unfold topW at ht
      split at ht
      ·cases ht
      ·rename_i T hT
       have e := buildT_spec s0.heap.life _ _ _ _ [] hT (by rfl)
       have r := topRunT_of ht
       have ee : (SharedT.abs ⟨T, s0.heap.objs.size, s0.heap.life, s0.gens, s0.drawn, s0.toks, s0.os⟩) = s0 := by
        unfold SharedT.abs
        have e' : absHeap T s0.heap.objs.size s0.heap.life = s0.heap := by
         have : 0 + s0.heap.objs.toList.length = s0.heap.objs.size := by simp
         rw [this] at e
         rw [e]
         simp
        rw [e']
       rw [ee] at r
       have r' := topRun_mono (N - m) _ _ _ _ r
       rw [show m + (N - m) = N by omega] at r'
       exact r'
  ·cases h
theorem leftO_of {p q : Program} {loose : List Str} {Xt : Shared → Bool} {α : Type} {Yf : Shared → α} {Ya : World → α} {N n m : Nat} (hn : n + 1 ≤ N) (hm : m ≤ N)
  (h : ∀ w : World, (allRun (impGoT treeTable (opening p) w) (start (opening p)).2 (fenceModules? p) stepOk (stepT (denote treeTable) p w) p n m).map (fun x => (x.1.heap.isNs mainGlobals && x.1.gens.size == 0,
    staticsOk (importedModules p.main.body) x.1.heap x.2.abs.heap && namesBound p x.2.abs.heap && gensDone x.2.abs && laidKept x.1.heap x.2.abs.heap,
    openSeen q loose (importedModules p.main.body) Xt true x.2.abs, Yf x.2.abs)) = some (true, true, openGood q loose, Ya w)) : LeftO p q loose Xt Yf Ya N := fun w => by
 obtain ⟨⟨s0, S⟩, e1, e2⟩ := Option.map_eq_some_iff.mp (h w)
 obtain ⟨r1, r2⟩ := allRun_spec e1 hn hm
 simp only [Prod.mk.injEq] at e2
 obtain ⟨a, b, c, d⟩ := e2
 unfold openEnds
 rw [r1]
 have t : topFrom treeTable p w N s0 = some S.abs := by
  unfold topFrom
  rw [a, r2]
  show (match staticsOk (importedModules p.main.body) s0.heap S.abs.heap && namesBound p S.abs.heap && gensDone S.abs && laidKept s0.heap S.abs.heap with | true => _ | false => _) = _
  rw [b]
 show (topFrom treeTable p w N s0).map _ = _
 rw [t]
 exact congrArg some (Prod.ext c d)
noncomputable def vw : Program := { Challenge.pw_mq0411_01 with main := { Challenge.pw_mq0411_01.main with body := Challenge.pw_mq0411_01.main.body.drop 38 } }
noncomputable def loose : List Str := ["_sre", "deque", "_wall", "_twin_re_1", "_whence", "_index", "UnsupportedOperation", "IOBase", "BufferedIOBase", "TextIOBase", "BytesIO", "StringIO", "_kind", "_fspath", "_check_arg_types", "isabs", "join", "join_path", "dirname", "shlex", "split", "join_shlex", "_find_unsafe", "quote", "parse_keqv_list", "parse_http_list", "_law_text", "_law_tree", "_law_marked", "_law_written", "_law_word", "_law_read"]
noncomputable def ka : List Nat := [3, 4, 48, 49, 62, 63, 89, 90, 92, 93, 94, 119, 120, 350, 360, 366, 367, 373, 374, 380, 381, 536, 542, 543, 565, 566, 572, 573, 596, 597, 649, 655, 656, 662, 663, 664, 692, 693, 699, 700, 721, 722, 728, 729, 731, 732, 737, 743, 744, 750, 751, 752, 758, 759, 765, 766, 770, 771, 777, 778, 784, 785, 789, 790, 794, 795, 799, 800, 804, 805, 809, 810]
noncomputable def noKey (x : Str) (o : Option Obj) : Bool := match o with
 | some o => match lookIn x o with
  | some none => true
  | _ => false
 | none => false
noncomputable def noTab (o : Option Obj) : Bool := match o with
 | some ⟨.none, none, .fields ps, sl⟩ => ps.toList.isEmpty && sl.toList.isEmpty
 | _ => false
noncomputable def seeK (s : Shared) : List (Option Obj) × Bool := (ka.map fun a => s.heap.get? a, noKey "thirdparty.any" (s.heap.get? cStatics) && (noTab (s.heap.get? 746) && (s.heap.get? sysModules).isSome))
noncomputable def haveK (w : World) : List (Option Obj) × Bool := ([some (o3 w.params), some (o4 w.params), some (o48 w.params), some (o49 w.params), some (o62 w.params), some (o63 w.params), some (o89 w.params), some (o90 w.params), some (o92 w.params), some (o93 w.params), some (o94 w.params), some (o119 w.params), some (o120 w.params), some (o350 w.params), some (o360 w.params), some (o366 w.params), some (o367 w.params), some (o373 w.params), some (o374 w.params), some (o380 w.params), some (o381 w.params), some (o536 w.params), some (o542 w.params), some (o543 w.params), some (o565 w.params), some (o566 w.params), some (o572 w.params), some (o573 w.params), some (o596 w.params), some (o597 w.params), some (o649 w.params), some (o655 w.params), some (o656 w.params), some (o662 w.params), some (o663 w.params), some (o664 w.params), some (o692 w.params), some (o693 w.params), some (o699 w.params), some (o700 w.params), some (o721 w.params), some (o722 w.params), some (o728 w.params), some (o729 w.params), some (o731 w.params), some (o732 w.params), some (o737 w.params), some (o743 w.params), some (o744 w.params), some (o750 w.params), some (o751 w.params), some (o752 w.params), some (o758 w.params), some (o759 w.params), some (o765 w.params), some (o766 w.params), some (o770 w.params), some (o771 w.params), some (o777 w.params), some (o778 w.params), some (o784 w.params), some (o785 w.params), some (o789 w.params), some (o790 w.params), some (o794 w.params), some (o795 w.params), some (o799 w.params), some (o800 w.params), some (o804 w.params), some (o805 w.params), some (o809 w.params), some (o810 w.params)], true)
theorem run1 : ∀ w : World, (allRun (impGoT treeTable (opening Challenge.pw_mq0411_01) w) (start (opening Challenge.pw_mq0411_01)).2 (fenceModules? Challenge.pw_mq0411_01) stepOk (stepT (denote treeTable) Challenge.pw_mq0411_01 w) Challenge.pw_mq0411_01 1085 5300).map (fun x => (x.1.heap.isNs mainGlobals && x.1.gens.size == 0,
    staticsOk (importedModules Challenge.pw_mq0411_01.main.body) x.1.heap x.2.abs.heap && namesBound Challenge.pw_mq0411_01 x.2.abs.heap && gensDone x.2.abs && laidKept x.1.heap x.2.abs.heap,
    openSeen vw loose (importedModules Challenge.pw_mq0411_01.main.body) (fun _ => true) true x.2.abs, seeK x.2.abs)) = some (true, true, openGood vw loose, haveK w) := by
 rw [PySem.W.Fast.te14789777615569096658, PySem.W.Fast.te14364793385576792824, PySem.W.Fast.te1435165496053646825, PySem.W.Fast.te14289696077712309145, PySem.W.Fast.te6613529449190102663, PySem.W.Fast.te10156331382660048174, PySem.W.Fast.te11892475500146522536, PySem.W.Fast.te4187177175401517315]
 intro w
 kernel_rfl
noncomputable def lawS : Stmt := stAt 38 Challenge.pw_mq0411_01.main.body
noncomputable def fPos : Stmt → Pos
 | .FunctionDef _ _ _ _ _ _ _ _ _ p => p
 | _ => default
noncomputable def dLaw : DefRec := ⟨"law", fArgs lawS, fBody lawS, fScope lawS, fPos lawS⟩
theorem left1 : LeftO Challenge.pw_mq0411_01 vw loose (fun _ => true) seeK haveK 5400 := leftO_of (n := 1085) (m := 5300) (by lia) (by lia) run1
noncomputable def YK (w : World) (h : Heap) : Prop := (KK w.params).In h ∧ (∃ o, h.get? cStatics = some o ∧ lookIn "thirdparty.any" o = some none) ∧ (h.get? 746 = some { cls := .none, data := .fields #[] }) ∧ ∃ o, h.get? sysModules = some o
theorem noKey_of {x : Str} {o : Option Obj} (h : noKey x o = true) : ∃ y, o = some y ∧ lookIn x y = some none := by
 unfold noKey at h
 split at h
 ·rename_i y
  split at h
  ·rename_i q; exact ⟨y, rfl, q⟩
  ·cases h
 ·cases h
theorem noTab_of {o : Option Obj} (h : noTab o = true) : o = some { cls := .none, data := .fields #[] } := by
 unfold noTab at h
 split at h
 ·rename_i ps sl
  rw [Bool.and_eq_true, List.isEmpty_iff, List.isEmpty_iff] at h
  have e1 : ps = #[] := by apply Array.ext'; rw [h.1]
  have e2 : sl = #[] := by apply Array.ext'; rw [h.2]
  rw [e1, e2]
 ·cases h
theorem seeK_of (w : World) (s : Shared) (h : seeK s = haveK w) : YK w s.heap := by
 have h2 : (noKey "thirdparty.any" (s.heap.get? cStatics) && (noTab (s.heap.get? 746) && (s.heap.get? sysModules).isSome)) = true := congrArg Prod.snd h
 rw [Bool.and_eq_true, Bool.and_eq_true] at h2
 exact ⟨Frag.in_of (as := ka) (by kernel_rfl) (congrArg Prod.fst h), noKey_of h2.1, noTab_of h2.2.1, Option.isSome_iff_exists.mp h2.2.2⟩
set_option maxHeartbeats 4000000 in
theorem said1 : Challenge.rw_mq0411_01.wellSaid = true := by
 rw [PySem.W.Fast.te9446332074065402090]
 delta PySem.W.Fast.tw9446332074065402090
 refine look_both (look_both ?_ (by decide +kernel)) (by kernel_rfl)
 iterate 16 refine look_both ?_ (by kernel_rfl)
 delta PySem.W.Fast.tw17960256430627541270
 iterate 2 refine look_both ?_ (by kernel_rfl)
 delta PySem.W.Fast.tw2436336058641802641
 iterate 13 refine look_both ?_ (by kernel_rfl)
 delta PySem.W.Fast.tw12908688711261696721
 refine look_both (look_both (look_both (look_both (look_both (by decide +kernel) (by decide +kernel)) (by decide +kernel)) (by kernel_rfl)) (by decide +kernel)) (by decide +kernel)
theorem head1 (call : WalkO vw loose (fun _ _ => True) YK Challenge.rw_mq0411_01.row.toRowW dLaw [] fun f vs => PySem.call f vs) : Challenge.rw_mq0411_01.Holds := by
 refine holds_law said1 fun said => ?_
 refine holds_open (q := vw) (loose := loose) (Xt := fun _ => true) (XP := fun _ _ => True) (Yf := seeK) (Ya := haveK) (YP := YK) (N := 5400) (d := dLaw) (kwd := []) left1 seeK_of ?_ (fun _ _ => trivial) (fun _ _ _ _ _ => trivial) ?_ ?_ ?_ ?_ ?_ said ?_ ?_ ?_ call
 ·intro w h h' y k
  obtain ⟨y1, ⟨o, a, b⟩, a2, o3, a3⟩ := y
  exact ⟨fun a o e => k a o (y1 a o e), ⟨o, k _ _ a, b⟩, k _ _ a2, o3, k _ _ a3⟩
 ·kernel_rfl
 ·kernel_rfl
 ·kernel_rfl
 ·intro s _; exact recFacts_nil (by kernel_rfl)
 ·rfl
 ·kernel_rfl
 ·exact ⟨rfl, rfl, rfl, rfl, rfl, by decide +kernel⟩
 ·exact ⟨[.list []], by decide +kernel, by decide +kernel⟩
set_option maxHeartbeats 1000000
theorem rdL_ints {B : Heap} {fz : List (Addr × Obj)} : ∀ {vs : List Value} {xs : List Int}, IntsAre vs xs → RdL B fz vs (xs.map .int) := by
 intro vs xs r
 induction r with
 | nil => exact .nil
 | cons x t _ ih => exact .cons (.int _ _) ih
theorem fits_ints (xs : List Int) (h : xs.length ≤ 1000) : Fits (.list (xs.map .int)) := .list (by rw [List.length_map, sizeLine_eq]; lia) fun d hd => by
 obtain ⟨x, _, rfl⟩ := List.mem_map.mp hd
 exact .int x
theorem glob_hide {h : Heap} {P : Params} {mg mb : Str → Option Value} {p : Program} {loose : List Str} {mean : ExcName → Option Value} (T : Top p loose mean mg mb h) (hs : ∃ o, h.get? cStatics = some o ∧ lookIn "thirdparty.any" o = some none) (hm : ∃ o, h.get? sysModules = some o) : GlobOk (hideAll h [746]) := by
 have ne : ∀ {b : Addr}, b ≠ 746 → b ∉ [746] := fun hb q => hb (List.mem_singleton.mp q)
 refine ⟨?_, ⟨mg, mb, T.g.at' fun o q => hideAll_get _ q (ne (by decide)), T.b.at' fun o q => hideAll_get _ q (ne (by decide)), T.builtins⟩, ?_, ?_⟩
 ·obtain ⟨mc, h1, h2⟩ := T.nolimit
  exact ⟨mc, h1.at' fun o q => hideAll_get _ q (ne (by decide)), h2⟩
 ·obtain ⟨o, a, b⟩ := hs
  exact ⟨o, hideAll_get _ a (ne (by decide)), b⟩
 ·obtain ⟨o, a⟩ := hm
  exact ⟨o, hideAll_get _ a (ne (by decide))⟩
theorem kk_hide {P : Params} {h : Heap} (X : (KK P).In h) : (KK P).In (hideAll h [746]) := fun a o e => by
 refine hideAll_get _ (X a o e) fun q => ?_
 rw [List.mem_singleton.mp q] at e
 have : (KK P).lookup 746 = none := by kernel_rfl
 rw [this] at e; cases e
structure LawEnd (s s' : Shared) : Prop where
 old : OldK s.heap s'.heap
 os : s'.os = s.os
 gens : AllBare s'.gens
theorem law_run {w : World} {s : Shared} {a : Addr} {vs : List Value} {xs : List Int} {mg mb : Str → Option Value} {p : Program} {loose : List Str} {mean : ExcName → Option Value} {E : Value → Shared → Prop} {Q : Value → Shared → Prop}
  (T : Top p loose mean mg mb s.heap) (Y : YK w s.heap) (hg : s.gens = #[]) (hL : s.heap.IsList a vs.toArray) (hI : IntsAre vs xs) (hlen : xs.length ≤ 1000) (hQ : ∀ s', LawEnd s s' → Q (.bool true) s') : wpAny (model prog w) callerA (call (.ref 810) [.ref a]) Q E s := by
 obtain ⟨X, hst, h7, hsm⟩ := Y
 refine wpAny_call ?_
 have ha : a ≠ 746 := fun e => by
  obtain ⟨o, q, _, n, q2⟩ := hL
  rw [e, h7] at q
  cases q; cases q2
 have hne : ∀ {b : Addr}, b ≠ 746 → b ∉ [746] := fun hb q => hb (List.mem_singleton.mp q)
 refine enter_top (C := cfLw w.params) (e := f810) (svs := [.dat (.list (xs.map .int))]) false [(746, tabO #[])] ⟨[(746, 0)], []⟩ [.tab 746] (fok810 _) (noCell_sound (by kernel_rfl)) (fun p hp => by rw [List.mem_singleton.mp hp]; exact h7) (by simp) rfl
  (LedR.cons (One.tab (P := w.params) (a := 746) (d := 0) (ps := #[]) trivial) LedR.nil) (kk_hide X) (glob_hide (P := w.params) T hst hsm) (fun _ => ⟨rfl, rfl⟩) rfl (by decide) (.cons ?_ .nil) rfl ?_
 ·refine ⟨⟨a, rfl⟩, fits_ints xs hlen, ?_⟩
  obtain ⟨o, q1, q2, n, q3⟩ := hL
  exact .list (.inl (hideAll_get _ q1 (hne ha))) q2 q3 (rdL_ints hI)
 ·intro F' h₁ t ok eA eS eh eB eq R
  refine wpAny_mono (sound (cokLw w) 600 F' _ (.sts f810.body) _ _ ⟨[(746, 0)], []⟩ _ (fun c s' => match c with
   | .fl (.ret v) => Q v s'
   | _ => False) ok (by rw [eA]; show callerA.depth + 1 + 600 < _; decide) (by rw [eA]; show callerA.units + 3 + 8 * 600 < _; decide) (by rw [eS]; exact law_body w.params xs hlen (fun r st' => r = .ret (.bool true) ∧ ∃ l, st'.led = .tab 746 :: l) fun loc l => ⟨rfl, l, rfl⟩) R ?_) (fun f s' q => ?_) fun _ _ q => q
  rotate_left
  ·cases f with
   | ret v => exact q
   | _ => exact q.elim
  rintro r st' more c s' ⟨rfl, l, hl⟩ R' nx dr
  cases c with
  | fl fl => cases fl with
   | ret v =>
    cases dr
    refine hQ s' ⟨?_, nx.os, fun y hy => ?_⟩
    ·obtain ⟨m, news, lw, RX⟩ := R'
     have keep : ∀ b o, b ≠ 746 → s.heap.get? b = some o → s'.heap.get? b = some o := fun b o hb e => RX.fr.keep b o (by rw [eh]; exact hideAll_get _ e (hne hb))
     have htab : ∃ ps, s'.heap.get? 746 = some (tabO ps) := by
      have hi : st'.led[0]? = some (.tab 746) := by rw [hl]; rfl
      obtain ⟨pre, ps, post, a', d', h1, h2, h3, h4⟩ := RX.led.at hi
      clear h4
      obtain ⟨rfl, ps, ht, rfl⟩ := h3.inv
      ·exact ⟨ps, (RX.nw (746, tabO ps) (by rw [h1]; simp)).1⟩
     obtain ⟨ps, htab⟩ := htab
     refine ⟨fun b o e => ?_, fun b o e => ?_⟩
     ·by_cases hb : b = 746
      ·subst hb
       rw [h7] at e; cases e
       exact .inr (.inl ⟨(tableAt_of X h7).isCodeTable, rfl, #[], ps, rfl, by rw [htab]; simp⟩)
      ·exact .inl (keep b o hb e)
     ·by_cases hb : b = 746
      ·subst hb; exact ⟨_, htab⟩
      ·exact ⟨o, keep b o hb e⟩
    ·obtain ⟨i, hi, e⟩ := Array.mem_iff_getElem.mp hy
     have hy' : s'.gens[i]? = some y := by rw [Array.getElem?_eq_getElem hi, e]
     rcases nx.done i y hy' with q | q
     ·have q' : s.gens[i]? = some y := q
      rw [hg] at q'; simp at q'
     ·exact q
   | _ => exact dr.elim
  | _ => exact dr.elim
theorem law_post (l : OpenLaw) (args ds : List WData) : l.row.toRowW.claim.post args (.bool true) ds = true := by
 show (WShape.has l.row.records (.bool true) .bool && WTm.holds l.row.records (.eq .res (.lit (.bool true))) { args := args, res := some (.bool true), after := ds }) = true
 have h1 : WShape.has l.row.records (.bool true) .bool = true := by simp [WShape.has, WShape.arms]
 have h2 : PySem.W.same (.bool true) (.bool true) = true := by first | decide | rfl | simp [PySem.W.same] | decide +kernel
 rw [h1]
 simp [WTm.holds, WTm.value, h2]
theorem call1 : WalkO vw loose (fun _ _ => True) YK Challenge.rw_mq0411_01.row.toRowW dLaw [] fun f vs => PySem.call f vs := by
 intro w s₀ s₁ mg mb G Y fa o pm cd doc dV kV ho hd hcd hD hmg hg args vals as hpre hlay hrd hwl hlo
 have T := G.T
 have hfa : mg "law" = some (.ref 810) := mg_of Y.1 T.g (by kernel_rfl)
 have e810 : fa = 810 := by
  have h2 : mg "law" = some (.ref fa) := hmg
  rw [hfa] at h2; cases h2; rfl
 subst e810
 clear G hD ho hd hcd hmg hfa
 wrow_args hpre hlay hrd hwl hlo
 rename_i xs _ _ _ _ _ _ a vs _ hL _ _ _ hI _ hc _
 rw [← show prog = Challenge.rw_mq0411_01.row.prog from by unfold prog; rfl]
 refine law_run T Y hg hL hI (by lia) fun s' q => ?_
 refine ⟨.inl ⟨.bool true, .bool true, [], rfl, fun cls => rfl, ?_, ?_, fun _ => ⟨List.nodup_nil, fun a h => nomatch h⟩⟩, q.old, q.os, q.gens⟩
 ·exact .bool true
 ·exact law_post _ _ _
end Mine
theorem PySem.Challenge.cw_mq0411_01_holds : PySem.Challenge.rw_mq0411_01.Holds :=
  Mine.head1 Mine.call1
