import PyProof.Rows.All
import PyProof.IsiH_list
import KE.LcTurns
import KE.KOwnIter
import KE.KStopIter
import OpenK.ZHead
import Wide.FinOn
import OpenK.AllK
import Wide.All
import PySem.Challenge.RW_il0193_02

section
set_option Elab.async false
namespace Mine
universe u
@[elab_as_elim] theorem rg {α : Sort u} {a b : α} {P : α → Prop} (h : a = b) (t : P b) : P a := Eq.ndrec (motive := P) t h.symm
@[elab_as_elim] theorem rl {α : Sort u} {a b : α} {P : α → Prop} (h : b = a) (t : P b) : P a := Eq.ndrec (motive := P) t h
theorem nsE {α : Type} {a : α} {P : Prop} (h : none = some a) : P := nomatch h
theorem snE {α : Type} {a : α} {P : Prop} (h : some a = none) : P := nomatch h
theorem tfE {P : Prop} (h : true = false) : P := nomatch h
theorem ftE {P : Prop} (h : false = true) : P := nomatch h
theorem ncE {α : Type} {a : α} {l : List α} {P : Prop} (h : [] = a :: l) : P := nomatch h
theorem cnE {α : Type} {a : α} {l : List α} {P : Prop} (h : a :: l = []) : P := nomatch h
end Mine
end

section
open PySem PySem.W PySem.Calls PyProof.Rows
set_option Elab.async false
set_option maxRecDepth 100000
set_option autoImplicit false
set_option genSizeOf false
set_option genInjectivity false
set_option linter.unusedVariables false
namespace Mine

/-! shadow values -/
inductive SV where
  | none
  | bool (c b : Bool)
  | int (c : Bool) (i : Int)
  | str (c : Bool) (s : List Nat)
  | ref (k : Nat) (a : Addr)
  | con (v : Value)
  | seq (tup : Bool) (xs : List SV)
  | bm (k : Nat) (a : Addr) (id : String)
  | fz (a : Addr) (o : Obj)
  | any

noncomputable abbrev Frz := Addr → Obj → Prop
noncomputable abbrev cls2 (tup : Bool) : Value := match tup with | true => .type "tuple" | false => .type "list"
noncomputable abbrev listO (vs : List Value) (n : Nat) : Obj := { cls := .type "list", data := .seq vs.toArray n }
noncomputable abbrev bmO (a : Addr) (id : String) : Obj := { cls := .type "builtin_function_or_method", data := .fields #[.builtin id, .ref a] }

inductive VR (R : Frz) : SV → Value → Prop
  | none : VR R .none .none
  | bool {c b} : VR R (.bool c b) (.bool b)
  | int {c i t} : VR R (.int c i) (.int i t)
  | str {c s t} : VR R (.str c s) (.str ⟨s.toArray⟩ t)
  | ref {k a} : VR R (.ref k a) (.ref a)
  | con {v} : VR R (.con v) v
  | seq {tup xs a o} {vs : List Value} {n : Nat} (h : R a o) (hc : o.cls = cls2 tup) (hd : o.data = .seq vs.toArray n) (hl : xs.length = vs.length)
      (hv : ∀ (i : Nat) x v, xs[i]? = some x → vs[i]? = some v → VR R x v) : VR R (.seq tup xs) (.ref a)
  | bm {k a id b} (h : R b (bmO a id)) : VR R (.bm k a id) (.ref b)
  | fz {a o} (h : R a o) : VR R (.fz a o) (.ref a)
  | any {v} : VR R .any v

noncomputable def Grows (R R' : Frz) : Prop := ∀ a o, R a o → R' a o
theorem Grows.rfl {R : Frz} : Grows R R := fun _ _ h => h
theorem Grows.trans {R R' R'' : Frz} (h : Grows R R') (h' : Grows R' R'') : Grows R R'' := fun a o q => h' a o (h a o q)
theorem VR.grows {R R' : Frz} (g : Grows R R') {x : SV} {v : Value} (h : VR R x v) : VR R' x v := by
  induction h with
  | none => exact .none
  | bool => exact .bool
  | int => exact .int
  | str => exact .str
  | ref => exact .ref
  | con => exact .con
  | seq h hc hd hl _ ih => exact .seq (g _ _ h) hc hd hl ih
  | bm h => exact .bm (g _ _ h)
  | fz h => exact .fz (g _ _ h)
  | any => exact .any

/-- for all numbers under a bound, one by one -/
noncomputable def Below (P : Nat → Prop) (n : Nat) : Prop := Nat.rec True (fun m ih => P m ∧ ih) n
theorem Below.of {P : Nat → Prop} {k : Nat} : ∀ {n : Nat}, Below P n → k < n → P k
  | 0, _, h => absurd h (Nat.not_lt_zero k)
  | n + 1, hb, h => (Nat.lt_succ_iff_lt_or_eq.mp h).elim (fun h => Below.of hb.2 h) fun h => h ▸ hb.1
theorem Below.ofInt {P : Int → Prop} {n : Nat} {k : Int} (h : Below (fun m => P (m : Int)) n) (h0 : 0 ≤ k) (h1 : k < (n : Int)) : P k := by
  obtain ⟨m, rfl⟩ := Int.eq_ofNat_of_zero_le h0
  exact Below.of (P := fun m => P (m : Int)) h (Int.ofNat_lt.mp h1)

/-! what stands behind a shadow -/
theorem VR.none' {R : Frz} {v : Value} (h : VR R .none v) : v = .none := by cases h; rfl
theorem VR.bool' {R : Frz} {c b : Bool} {v : Value} (h : VR R (.bool c b) v) : v = .bool b := by cases h; rfl
theorem VR.int' {R : Frz} {c : Bool} {i : Int} {v : Value} (h : VR R (.int c i) v) : ∃ t, v = .int i t := by cases h; exact ⟨_, rfl⟩
theorem VR.str' {R : Frz} {c : Bool} {x : List Nat} {v : Value} (h : VR R (.str c x) v) : ∃ t, v = .str ⟨x.toArray⟩ t := by cases h; exact ⟨_, rfl⟩
theorem VR.ref' {R : Frz} {k : Nat} {a : Addr} {v : Value} (h : VR R (.ref k a) v) : v = .ref a := by cases h; rfl
theorem VR.con' {R : Frz} {w v : Value} (h : VR R (.con w) v) : v = w := by cases h; rfl
theorem VR.fz' {R : Frz} {a : Addr} {o : Obj} {v : Value} (h : VR R (.fz a o) v) : v = .ref a ∧ R a o := by cases h; exact ⟨rfl, by assumption⟩
theorem VR.bm' {R : Frz} {k : Nat} {a : Addr} {id : String} {v : Value} (h : VR R (.bm k a id) v) : ∃ b, v = .ref b ∧ R b (bmO a id) := by cases h; exact ⟨_, rfl, by assumption⟩

/-- pointwise -/
structure VRs (R : Frz) (xs : List SV) (vs : List Value) : Prop where
  len : xs.length = vs.length
  at_ : ∀ (i : Nat) x v, xs[i]? = some x → vs[i]? = some v → VR R x v
theorem VRs.grows {R R' : Frz} (g : Grows R R') {xs : List SV} {vs : List Value} (h : VRs R xs vs) : VRs R' xs vs := ⟨h.len, fun i x v a b => (h.at_ i x v a b).grows g⟩
theorem VRs.nil {R : Frz} : VRs R [] [] := ⟨rfl, fun i x v a => by simp at a⟩
theorem VRs.cons {R : Frz} {x : SV} {v : Value} {xs : List SV} {vs : List Value} (h : VR R x v) (t : VRs R xs vs) : VRs R (x :: xs) (v :: vs) :=
  ⟨by simp [t.len], fun i y z a b => by
    induction i with
    | zero => simp at a b; subst a; subst b; exact h
    | succ i => simp at a b; exact t.at_ i y z a b⟩
theorem VRs.uncons {R : Frz} {x : SV} {xs : List SV} {vs : List Value} (h : VRs R (x :: xs) vs) : ∃ v t, vs = v :: t ∧ VR R x v ∧ VRs R xs t := by
  induction vs with
  | nil => have := h.len; simp at this
  | cons v t => exact ⟨v, t, rfl, h.at_ 0 x v rfl rfl, by have := h.len; simpa using this, fun i y z a b => h.at_ (i + 1) y z a b⟩
theorem VRs.unnil {R : Frz} {vs : List Value} (h : VRs R [] vs) : vs = [] := by
  induction vs with
  | nil => rfl
  | cons v t => have := h.len; simp at this
theorem VRs.append {R : Frz} {xs ys : List SV} {vs ws : List Value} (h : VRs R xs vs) (h' : VRs R ys ws) : VRs R (xs ++ ys) (vs ++ ws) :=
  ⟨by simp [h.len, h'.len], fun i x v a b => by
    rw [List.getElem?_append] at a b
    replace b := (Eq.symm h.len) ▸ b
    split at a
    · rename_i q; replace b := (if_pos q) ▸ b; exact h.at_ i x v a b
    · rename_i q; replace b := (if_neg q) ▸ b; exact h'.at_ _ x v a b⟩
theorem VRs.get {R : Frz} {xs : List SV} {vs : List Value} (h : VRs R xs vs) {i : Nat} {x : SV} (a : xs[i]? = some x) : ∃ v, vs[i]? = some v ∧ VR R x v := by
  have hi : i < xs.length := (List.getElem?_eq_some_iff.mp a).1
  have hv : i < vs.length := h.len ▸ hi
  exact ⟨vs[i], List.getElem?_eq_getElem hv, h.at_ i x _ a (List.getElem?_eq_getElem hv)⟩

inductive SO where
  | list (xs : List SV)
  | attrs (a C : Addr) (as : List (Str × SV))
  | raw (P : Obj → Prop)

inductive OR (R : Frz) (dx : Addr) : SO → Obj → Prop
  | list {xs vs n} (h : VRs R xs vs) : OR R dx (.list xs) (listO vs n)
  | attrs {a C as n sl} {es : List DictEntry} (h : R a ⟨.ref C, some dx, .plain, sl⟩) (hl : as.length = es.length)
      (he : ∀ (i : Nat) x e, as[i]? = some x → es[i]? = some e → (∃ t, DictEntry.key e = .str x.1 t) ∧ VR R x.2 e.val) : OR R dx (.attrs a C as) (dictOf es n)
  | raw {P : Obj → Prop} {o} (h : P o) : OR R dx (.raw P) o
theorem OR.grows {R R' : Frz} (g : Grows R R') {dx : Addr} {x : SO} {o : Obj} (h : OR R dx x o) : OR R' dx x o := by
  induction h with
  | list h => exact .list (h.grows g)
  | attrs h hl he => exact .attrs (g _ _ h) hl fun i x e a b => ⟨(he i x e a b).1, (he i x e a b).2.grows g⟩
  | raw h => exact .raw h

structure Cell where
  k : Nat
  a : Addr
  o : SO
structure St where
  loc : List (Str × SV)
  mem : List Cell
  nk : Nat

noncomputable def eqL : List Nat → List Nat → Bool
  | [], [] => true
  | a :: x, b :: y => match Nat.beq a b with | true => eqL x y | false => false
  | _, _ => false
theorem eqL_iff : ∀ {x y : List Nat}, eqL x y = true ↔ x = y
  | [], [] => by simp [eqL]
  | [], _ :: _ => by simp [eqL]
  | _ :: _, [] => by simp [eqL]
  | a :: x, b :: y => by
    rw [eqL]
    cases h : Nat.beq a b with
    | true => simp only [Nat.eq_of_beq_eq_true h, List.cons.injEq, true_and]; exact eqL_iff
    | false => simp only [List.cons.injEq]; constructor
               · intro h; exact ftE h
               · intro q; replace h := q.1 ▸ h; rw [Nat.beq_refl] at h; exact tfE h
noncomputable def eqS (a b : Str) : Bool := eqL a.cps.toList b.cps.toList
theorem eqS_iff {a b : Str} : eqS a b = true ↔ a = b := by
  unfold eqS; rw [eqL_iff]
  induction a; induction b; simp
theorem eqS_ne {a b : Str} (h : eqS a b = false) : a ≠ b := fun q => by replace h := (eqS_iff.mpr q) ▸ h; exact tfE h
noncomputable def lk {α : Type} (l : List (Str × α)) (x : Str) : Option α :=
  List.rec none (fun p _ ih => Bool.rec ih (some p.2) (eqS p.1 x)) l
theorem lk_cons {α : Type} (y : Str) (v : α) (r : List (Str × α)) (x : Str) : lk ((y, v) :: r) x = match eqS y x with | true => some v | false => lk r x := by
  refine (?_ : (Bool.rec (motive := fun _ => Option α) (lk r x) (some v) (eqS y x)) = _)
  cases eqS y x <;> rfl
noncomputable def setL {α : Type} (l : List (Str × α)) (x : Str) (v : α) : List (Str × α) :=
  List.rec [(x, v)] (fun p r ih => Bool.rec (p :: ih) ((p.1, v) :: r) (eqS p.1 x)) l
theorem setL_cons {α : Type} (y : Str) (u : α) (r : List (Str × α)) (x : Str) (v : α) : setL ((y, u) :: r) x v = match eqS y x with | true => (y, v) :: r | false => (y, u) :: setL r x v := by
  refine (?_ : (Bool.rec (motive := fun _ => List (Str × α)) ((y, u) :: setL r x v) ((y, v) :: r) (eqS y x)) = _)
  cases eqS y x <;> rfl
theorem lk_setL {α : Type} (x y : Str) (v : α) : ∀ l : List (Str × α), lk (setL l x v) y = if y = x then some v else lk l y
  | [] => by
    refine (?_ : lk [(x, v)] y = _)
    refine rg (lk_cons ..) ?_
    cases h : eqS x y with
    | true => exact rg (eqS_iff.mp h) (rg (if_pos rfl) rfl)
    | false => exact rg (if_neg (fun q => eqS_ne h q.symm)) rfl
  | (z, u) :: r => by
    refine rg (setL_cons ..) ?_
    cases h : eqS z x with
    | true =>
      have := eqS_iff.mp h; subst this
      simp only [lk_cons]
      cases q : eqS z y with
      | true => exact rg (eqS_iff.mp q) (rg (if_pos rfl) rfl)
      | false => exact rg (if_neg (fun e => eqS_ne q e.symm)) rfl
    | false =>
      simp only [lk_cons]
      cases q : eqS z y with
      | true => exact rg (if_neg (fun e => eqS_ne h (by rw [← e]; exact eqS_iff.mp q))) rfl
      | false => exact lk_setL x y v r
noncomputable def mlk (l : List Cell) (k : Nat) : Option Cell := List.rec none (fun c _ ih => Bool.rec ih (some c) (Nat.beq c.k k)) l
theorem mlk_cons (c : Cell) (r : List Cell) (k : Nat) : mlk (c :: r) k = match Nat.beq c.k k with | true => some c | false => mlk r k := by
  refine (?_ : (Bool.rec (motive := fun _ => Option Cell) (mlk r k) (some c) (Nat.beq c.k k)) = _)
  cases Nat.beq c.k k <;> rfl
theorem mlk_mem {l : List Cell} {k : Nat} {c : Cell} (h : mlk l k = some c) : c ∈ l := by
  induction l with
  | nil => exact nsE h
  | cons d r ih =>
    rw [mlk_cons] at h
    split at h
    · obtain rfl := Option.some.inj h; exact .head _
    · exact .tail _ (ih h)
noncomputable def mset (l : List Cell) (k : Nat) (o : SO) : List Cell := List.rec [] (fun c r ih => Bool.rec (c :: ih) (⟨c.k, c.a, o⟩ :: r) (Nat.beq c.k k)) l
theorem mset_cons (c : Cell) (r : List Cell) (k : Nat) (o : SO) : mset (c :: r) k o = match Nat.beq c.k k with | true => ⟨c.k, c.a, o⟩ :: r | false => c :: mset r k o := by
  refine (?_ : (Bool.rec (motive := fun _ => List Cell) (c :: mset r k o) (⟨c.k, c.a, o⟩ :: r) (Nat.beq c.k k)) = _)
  cases Nat.beq c.k k <;> rfl
theorem mset_split {k : Nat} {c : Cell} {o : SO} : ∀ {l : List Cell}, mlk l k = some c → ∃ pre post, l = pre ++ c :: post ∧ mset l k o = pre ++ ⟨c.k, c.a, o⟩ :: post
  | [], h => by exact nsE h
  | d :: r, h => by
    rw [mlk_cons] at h
    refine rg (mset_cons ..) ?_
    cases q : Nat.beq d.k k with
    | true => replace h := q ▸ h; obtain rfl := Option.some.inj h; exact ⟨[], r, rfl, rfl⟩
    | false =>
      replace h := q ▸ h
      obtain ⟨pre, post, e1, e2⟩ := mset_split (o := o) h
      exact ⟨d :: pre, post, by refine rg e1 ?_; rfl, by refine (?_ : d :: mset r k o = _); refine rg e2 ?_; rfl⟩

structure Cx where
  prog : Program
  w : World
  A : Around
  h₀ : Heap
  L : Addr
  name : Str
  scope : Scope
  fa : Addr
  cd : Value
  cells : List (Str × Addr)
  K : Frag
  cvs : List (Str × SV)
  glb : List (Str × Value)
  os : OsState
  ban : List Addr
  outs : List (Addr × Obj)
  oenv : List Env

noncomputable abbrev Cx.env (C : Cx) : Env := envX C.name C.scope C.L C.fa C.cd C.cells
noncomputable abbrev Cx.M (C : Cx) : Model := model C.prog C.w

structure Cx.Ok (C : Cx) : Prop where
  X : C.K.In C.h₀
  hk : C.scope.kind = .function
  glb : ∀ x v, lk C.glb x = some v → nsIn C.K mainGlobals x = some (some v) ∨ (nsIn C.K mainGlobals x = some none ∧ bootBuiltins x = some v ∧ x ≠ "__name__")
  top : ∃ p loose mg mb, TopRead p loose mg mb C.h₀
  hh : C.A.handled = none
  lim : C.h₀.NoLimit
  room : C.A.depth < 900
  ban : ∀ b ∈ C.ban, b < C.h₀.objs.size
  frames : C.A.frames = some (C.env :: C.oenv)
  onames : C.oenv.map (·.frame) = C.outs.map fun p => some p.1
  okind : ∀ e ∈ C.oenv, e.scope.kind ≠ .module
  ohide : ∀ p ∈ C.outs, C.h₀.get? p.1 = none ∧ p.1 ∈ C.ban ∧ (∀ vs, p.2.data ≠ .fields vs)

structure Rel (C : Cx) (R : Frz) (st : St) (s : Shared) : Prop where
  fr : ∃ m, Fr C.h₀ C.L s.heap m ∧ ∀ x v, lk st.loc x = some v → ∃ val, m x = some val ∧ VR R v val
  mem : ∀ c ∈ st.mem, ∃ o, OR R c.a c.o o ∧ s.heap.get? c.a = some o ∧ c.a ≠ C.L ∧ C.h₀.get? c.a = none
  frz : ∀ a o, R a o → s.heap.get? a = some o ∧ a ≠ C.L ∧ ∀ c ∈ st.mem, c.a ≠ a
  ban : ∀ a o, R a o → a ∉ C.ban
  nd : (st.mem.map (·.a)).Nodup
  cvs : ∀ x v, lk C.cvs x = some v → ∃ c o val, C.cells.lookup x = some c ∧ R c o ∧ o.data = .cell (some val) ∧ VR R v val
  gens : s.gens = #[]
  os : s.os = C.os
  outs : ∀ p ∈ C.outs, p.1 ≠ C.L ∧ (∀ c ∈ st.mem, c.a ≠ p.1) ∧ ∃ sl, s.heap.get? p.1 = some { p.2 with slots := sl }

section
variable {C : Cx} {R : Frz} {st : St} {s : Shared}
theorem Rel.toks (r : Rel C R st s) (t : Nat) : Rel C R st { s with toks := t } := ⟨r.fr, r.mem, r.frz, r.ban, r.nd, r.cvs, r.gens, r.os, r.outs⟩

/-- all that was is still there -/
theorem Rel.keep {s' : Shared} (r : Rel C R st s) (hk : ∀ b o, s.heap.get? b = some o → s'.heap.get? b = some o) (hg : s'.gens = s.gens) (ho : s'.os = s.os) : Rel C R st s' := by
  obtain ⟨m, F, hl⟩ := r.fr
  obtain ⟨oL, es, ep, e1, e2⟩ := F.ns
  refine ⟨⟨m, ⟨⟨oL, es, ep, hk _ _ e1, e2⟩, fun b o e => hk _ _ (F.keep b o e), F.above⟩, hl⟩, fun c hc => ?_, fun a o h => ?_, r.ban, r.nd, r.cvs, hg.trans r.gens, ho.trans r.os, fun p hp => let ⟨a, b, sl, e⟩ := r.outs p hp; ⟨a, b, sl, hk _ _ e⟩⟩
  · obtain ⟨o, a, b, d⟩ := r.mem c hc
    exact ⟨o, a, hk _ _ b, d⟩
  · obtain ⟨a, b⟩ := r.frz a o h
    exact ⟨hk _ _ a, b⟩

theorem Rel.store {s' : Shared} {x : Str} {v : SV} {val : Value} {m : Str → Option Value} (r : Rel C R st s) (hv : VR R v val) (F : Fr C.h₀ C.L s.heap m)
    (hl : ∀ x v, lk st.loc x = some v → ∃ val, m x = some val ∧ VR R v val)
    (hn : s'.heap.Ns C.L (fun y => if y = x then some val else m y)) (hs : Heap.SameBut C.L s.heap s'.heap) (hg : s'.gens = s.gens) (ho : s'.os = s.os) :
    Rel C R { st with loc := setL st.loc x v } s' := by
  refine ⟨⟨_, F.set hn hs, fun y u hy => ?_⟩, fun c hc => ?_, fun a o h => ?_, r.ban, r.nd, r.cvs, hg.trans r.gens, ho.trans r.os, fun p hp => let ⟨a, b, sl, e⟩ := r.outs p hp; ⟨a, b, sl, (hs.2 _ a).trans e⟩⟩
  · rw [lk_setL] at hy
    by_cases e : y = x
    · rw [if_pos e] at hy ⊢; obtain rfl := Option.some.inj hy; exact ⟨_, rfl, hv⟩
    · rw [if_neg e] at hy ⊢; exact hl y u hy
  · obtain ⟨o, a, b, d⟩ := r.mem c hc
    exact ⟨o, a, (hs.2 _ d.1).trans b, d⟩
  · obtain ⟨a, b, d⟩ := r.frz a o h
    exact ⟨(hs.2 _ b).trans a, b, d⟩

theorem Rel.lt (r : Rel C R st s) : C.L < s.heap.objs.size := by
  obtain ⟨m, F, _⟩ := r.fr
  exact F.ns.lt
theorem Rel.base_none (r : Rel C R st s) {a : Addr} (h : s.heap.objs.size ≤ a) : C.h₀.get? a = none := by
  obtain ⟨m, F, _⟩ := r.fr
  cases q : C.h₀.get? a with
  | none => rfl
  | some o => exact absurd (Heap.lt_size (F.keep _ _ q)) (Nat.not_lt.mpr h)

noncomputable def allNews (C : Cx) (s : Shared) : List (Addr × Obj) :=
  (List.range s.heap.objs.size).filterMap fun a => match s.heap.get? a with
    | some o => if a = C.L ∨ (C.h₀.get? a).isSome = true then none else some (a, o)
    | none => none
theorem mem_allNews {a : Addr} {o : Obj} : (a, o) ∈ allNews C s ↔ s.heap.get? a = some o ∧ a ≠ C.L ∧ C.h₀.get? a = none := by
  unfold allNews
  rw [List.mem_filterMap]
  constructor
  · rintro ⟨b, _, hb⟩
    split at hb
    · rename_i o' ho
      split at hb
      · exact nsE hb
      · rename_i h
        cases hb
        refine ⟨ho, fun q => h (.inl q), ?_⟩
        cases q : C.h₀.get? a with
        | none => rfl
        | some x => exact absurd (Or.inr (by refine rg q ?_; rfl)) h
    · exact nsE hb
  · rintro ⟨h1, h2, h3⟩
    refine ⟨a, List.mem_range.mpr (Heap.lt_size h1), ?_⟩
    refine rg h1 ?_
    simp only [h2, h3, false_or, Option.isSome_none, Bool.false_eq_true, if_false]
theorem allNews_ok : News C.h₀ C.L s.heap (allNews C s) := fun p hp => mem_allNews.mp hp
theorem Rel.frn {h' : Heap} {t : Nat} {m : Str → Option Value} {extra : List (Addr × Obj)} (r : Rel C R st s) (F : Fr C.h₀ C.L s.heap m) (hl : ∀ x v, lk st.loc x = some v → ∃ val, m x = some val ∧ VR R v val)
    (F' : Fr C.h₀ C.L h' m) (N' : News C.h₀ C.L h' (extra ++ allNews C s)) : Rel C R st { s with heap := h', toks := t } := by
  have hk : ∀ b o, b ≠ C.L → s.heap.get? b = some o → h'.get? b = some o := fun b o hb e => by
    cases q : C.h₀.get? b with
    | none => exact (N' (b, o) (List.mem_append_right _ (mem_allNews.mpr ⟨e, hb, q⟩))).1
    | some x =>
      have := F.keep b x q
      replace this := e ▸ this; obtain rfl := Option.some.inj this
      exact F'.keep b o q
  refine ⟨⟨m, F', hl⟩, fun c hc => ?_, fun a o h => ?_, r.ban, r.nd, r.cvs, r.gens, r.os, fun p hp => let ⟨a, b, sl, e⟩ := r.outs p hp; ⟨a, b, sl, hk _ _ a e⟩⟩
  · obtain ⟨o, a, b, d⟩ := r.mem c hc
    exact ⟨o, a, hk _ _ d.1 b, d⟩
  · obtain ⟨a, b⟩ := r.frz a o h
    exact ⟨hk _ _ b.1 a, b⟩

/-- a new object as a cell -/
theorem Rel.add {s' : Shared} {a : Addr} {o : Obj} {so : SO} (r : Rel C R st s) (r' : Rel C R st s')
    (ha : s.heap.objs.size ≤ a) (hget : s'.heap.get? a = some o) (hor : OR R a so o) : Rel C R { st with mem := ⟨st.nk, a, so⟩ :: st.mem, nk := st.nk + 1 } s' := by
  have fresh : ∀ b o, s.heap.get? b = some o → b ≠ a := fun b o e q => absurd (Heap.lt_size e) (Nat.not_lt.mpr (q ▸ ha))
  refine ⟨r'.fr, fun c hc => ?_, fun b ob h => ⟨(r'.frz b ob h).1, (r'.frz b ob h).2.1, fun c hc => ?_⟩, r.ban, ?_, r.cvs, r'.gens, r'.os, fun p hp => ?_⟩
  rotate_left
  rotate_left
  rotate_left
  · obtain ⟨a1, b1, sl, e1⟩ := r'.outs p hp
    obtain ⟨_, _, sl0, e0⟩ := r.outs p hp
    refine ⟨a1, fun c hc => ?_, sl, e1⟩
    rcases List.mem_cons.mp hc with rfl | hc
    · exact (fresh _ _ e0).symm
    · exact b1 c hc
  · rcases List.mem_cons.mp hc with rfl | hc
    · exact ⟨o, hor, hget, Nat.ne_of_gt (Nat.lt_of_lt_of_le r.lt ha), r.base_none ha⟩
    · exact r'.mem c hc
  · rcases List.mem_cons.mp hc with rfl | hc
    · exact (fresh b ob (r.frz b ob h).1).symm
    · exact (r'.frz b ob h).2.2 c hc
  · refine List.nodup_cons.mpr ⟨fun q => ?_, r.nd⟩
    obtain ⟨c, hc, e⟩ := List.mem_map.mp q
    obtain ⟨o', _, g, _⟩ := r.mem c hc
    exact fresh _ _ g e

/-- a new object, frozen -/
theorem Rel.freeze {s' : Shared} {a : Addr} {o : Obj} (ok : C.Ok) (r : Rel C R st s) (r' : Rel C R st s')
    (ha : s.heap.objs.size ≤ a) (hget : s'.heap.get? a = some o) : Rel C (fun b x => R b x ∨ (b = a ∧ x = o)) st s' := by
  have g : Grows R (fun b x => R b x ∨ (b = a ∧ x = o)) := fun _ _ h => .inl h
  obtain ⟨m, F, hl⟩ := r'.fr
  refine ⟨⟨m, F, fun x v h => let ⟨val, a, b⟩ := hl x v h; ⟨val, a, b.grows g⟩⟩, fun c hc => let ⟨o, a, b⟩ := r'.mem c hc; ⟨o, a.grows g, b⟩, fun b x h => ?_, fun b x h => ?_, r.nd,
    fun x v h => let ⟨c, o, val, a, b, d, e⟩ := r.cvs x v h; ⟨c, o, val, a, .inl b, d, e.grows g⟩, r'.gens, r'.os, r'.outs⟩
  rcases h with h | ⟨rfl, rfl⟩
  · exact r'.frz b x h
  · refine ⟨hget, Nat.ne_of_gt (Nat.lt_of_lt_of_le r.lt ha), fun c hc q => ?_⟩
    obtain ⟨o', _, g, _⟩ := r.mem c hc
    exact absurd (Heap.lt_size g) (Nat.not_lt.mpr (q ▸ ha))
  rcases h with h | ⟨rfl, rfl⟩
  · exact r.ban b x h
  · intro q
    have h1 := ok.ban _ q
    have h2 := F.above
    have h3 := r.lt
    exact absurd (Nat.lt_of_lt_of_le h1 h2) (Nat.not_lt.mpr (Nat.le_of_lt (Nat.lt_of_lt_of_le h3 ha)))

/-- a cell is changed -/
theorem Rel.put {s' : Shared} {k : Nat} {c : Cell} {o : Obj} {so : SO} (r : Rel C R st s) (hc : mlk st.mem k = some c) (hs : Heap.SameBut c.a s.heap s'.heap) (hget : s'.heap.get? c.a = some o) (hor : OR R c.a so o)
    (hg : s'.gens = s.gens) (ho : s'.os = s.os) : Rel C R { st with mem := mset st.mem k so } s' := by
  obtain ⟨m, F, hl⟩ := r.fr
  have hm := r.mem c (mlk_mem hc)
  obtain ⟨o0, _, g0, hne, hn0⟩ := hm
  obtain ⟨oL, es, ep, e1, e2⟩ := F.ns
  obtain ⟨pre, post, e3, e4⟩ := mset_split (o := so) hc
  have nd := r.nd
  replace nd := e3 ▸ nd
  simp only [List.map_append, List.map_cons] at nd
  have hmem : ∀ d ∈ mset st.mem k so, d = ⟨c.k, c.a, so⟩ ∨ (d ∈ st.mem ∧ d.a ≠ c.a) := fun d hd => by
    replace hd := e4 ▸ hd
    rcases List.mem_append.mp hd with q | q
    · right
      refine ⟨by refine rg e3 ?_; exact List.mem_append_left _ q, fun e => ?_⟩
      have := (List.nodup_append.mp nd).2.2 d.a (List.mem_map_of_mem q) c.a (.head _)
      exact this e
    · rcases List.mem_cons.mp q with rfl | q
      · exact .inl rfl
      · right
        refine ⟨by refine rg e3 ?_; exact List.mem_append_right _ (.tail _ q), fun e => ?_⟩
        have := (List.nodup_cons.mp (List.nodup_append.mp nd).2.1).1
        exact this (e ▸ List.mem_map_of_mem q)
  refine ⟨⟨m, ⟨⟨oL, es, ep, (hs.2 _ (Ne.symm hne)).trans e1, e2⟩, fun b ob e => (hs.2 b fun q => ?_).trans (F.keep b ob e), F.above⟩, hl⟩, fun d hd => ?_, fun b ob h => ?_, r.ban, ?_, r.cvs, hg.trans r.gens, ho.trans r.os, fun p hp => ?_⟩
  rotate_left
  rotate_left
  rotate_left
  rotate_left
  · obtain ⟨a1, b1, sl, e1⟩ := r.outs p hp
    refine ⟨a1, fun d hd => ?_, sl, (hs.2 _ fun q => b1 c (mlk_mem hc) q.symm).trans e1⟩
    rcases hmem d hd with rfl | ⟨q, _⟩
    · exact b1 c (mlk_mem hc)
    · exact b1 d q
  · replace e := hn0 ▸ q ▸ e; exact nsE e
  · rcases hmem d hd with rfl | ⟨q, ne⟩
    · exact ⟨o, hor, hget, hne, hn0⟩
    · obtain ⟨o', a, b, e⟩ := r.mem d q
      exact ⟨o', a, (hs.2 _ ne).trans b, e⟩
  · obtain ⟨x, y, z⟩ := r.frz b ob h
    refine ⟨(hs.2 _ fun q => z c (mlk_mem hc) q.symm).trans x, y, fun d hd => ?_⟩
    rcases hmem d hd with rfl | ⟨q, _⟩
    · exact z c (mlk_mem hc)
    · exact z d q
  · refine (?_ : ((mset st.mem k so).map (·.a)).Nodup)
    refine rg e4 ?_; simpa only [List.map_append, List.map_cons] using nd

theorem Rel.forget {st' : St} (r : Rel C R st s) (hl : ∀ x v, lk st'.loc x = some v → lk st.loc x = some v) (hm : st'.mem.Sublist st.mem) : Rel C R st' s := by
  obtain ⟨m, F, h⟩ := r.fr
  exact ⟨⟨m, F, fun x v q => h x v (hl x v q)⟩, fun c hc => r.mem c (hm.subset hc), fun a o h => ⟨(r.frz a o h).1, (r.frz a o h).2.1, fun c hc => (r.frz a o h).2.2 c (hm.subset hc)⟩,
    r.ban, r.nd.sublist (hm.map _), r.cvs, r.gens, r.os, fun p hp => let ⟨a, b, sl, e⟩ := r.outs p hp; ⟨a, fun c hc => b c (hm.subset hc), sl, e⟩⟩
end

/-! judgements -/
noncomputable abbrev NoE : Value → Shared → Prop := fun _ _ => False
/-! what holds behind a step: named, so that terms stay short -/
inductive VP (C : Cx) (R : Frz) (Q : SV → St → Prop) (v : Value) (s' : Shared) : Prop
  | mk (R' : Frz) (g : Grows R R') (sv : SV) (st' : St) (r : Rel C R' st' s') (hv : VR R' sv v) (q : Q sv st') : VP C R Q v s'
inductive BP (C : Cx) (R : Frz) (Q : Bool → St → Prop) (b : Bool) (s' : Shared) : Prop
  | mk (R' : Frz) (g : Grows R R') (st' : St) (r : Rel C R' st' s') (q : Q b st') : BP C R Q b s'
inductive XP (C : Cx) (R : Frz) (Q : Bool → Bool → St → Prop) (x : Value) (s' : Shared) : Prop
  | mk (R' : Frz) (g : Grows R R') (c b : Bool) (st' : St) (e : x = .bool b) (r : Rel C R' st' s') (q : Q c b st') : XP C R Q x s'
inductive CP (C : Cx) (R : Frz) (Q : Bool → Bool → St → Prop) (b : Bool) (s' : Shared) : Prop
  | mk (R' : Frz) (g : Grows R R') (c : Bool) (st' : St) (r : Rel C R' st' s') (q : Q c b st') : CP C R Q b s'
inductive UP (C : Cx) (R : Frz) (Q : St → Prop) (u : Unit) (s' : Shared) : Prop
  | mk (R' : Frz) (g : Grows R R') (st' : St) (r : Rel C R' st' s') (q : Q st') : UP C R Q u s'
inductive MP (C : Cx) (R : Frz) (Q : SV → List SV → St → Prop) (p : Value × List Value) (s' : Shared) : Prop
  | mk (R' : Frz) (g : Grows R R') (f : SV) (xs : List SV) (st' : St) (r : Rel C R' st' s') (hf : VR R' f p.1) (hxs : VRs R' xs p.2) (q : Q f xs st') : MP C R Q p s'
inductive LP (C : Cx) (R : Frz) (Q : List SV → St → Prop) (vs : List Value) (s' : Shared) : Prop
  | mk (R' : Frz) (g : Grows R R') (xs : List SV) (st' : St) (r : Rel C R' st' s') (hv : VRs R' xs vs) (q : Q xs st') : LP C R Q vs s'
theorem VP.grows {C : Cx} {R R' : Frz} {Q : SV → St → Prop} {v : Value} {s : Shared} (g : Grows R R') (h : VP C R' Q v s) : VP C R Q v s := by induction h with | mk R2 g2 a b c d e => exact ⟨R2, g.trans g2, a, b, c, d, e⟩
theorem BP.grows {C : Cx} {R R' : Frz} {Q : Bool → St → Prop} {v : Bool} {s : Shared} (g : Grows R R') (h : BP C R' Q v s) : BP C R Q v s := by induction h with | mk R2 g2 a b c => exact ⟨R2, g.trans g2, a, b, c⟩
noncomputable def Ev (C : Cx) (t : Sem Value) (st : St) (Q : SV → St → Prop) : Prop := ∀ R s, Rel C R st s → wpAny C.M C.A t (VP C R Q) NoE s
noncomputable def Et (C : Cx) (t : Sem Bool) (st : St) (Q : Bool → St → Prop) : Prop := ∀ R s, Rel C R st s → wpAny C.M C.A t (BP C R Q) NoE s
inductive SF where
  | next | brk | cont | ret (v : SV)
inductive FR (R : Frz) : SF → Flow → Prop
  | next : FR R .next .next
  | brk : FR R .brk .brk
  | cont : FR R .cont .cont
  | ret {x v} (h : VR R x v) : FR R (.ret x) (.ret v)
inductive FP (C : Cx) (R : Frz) (Q : SF → St → Prop) (f : Flow) (s' : Shared) : Prop
  | mk (R' : Frz) (g : Grows R R') (sf : SF) (st' : St) (r : Rel C R' st' s') (hf : FR R' sf f) (q : Q sf st') : FP C R Q f s'
theorem FP.grows {C : Cx} {R R' : Frz} {Q : SF → St → Prop} {v : Flow} {s : Shared} (g : Grows R R') (h : FP C R' Q v s) : FP C R Q v s := by induction h with | mk R2 g2 a b c d e => exact ⟨R2, g.trans g2, a, b, c, d, e⟩
noncomputable def Es (C : Cx) (t : Sem Flow) (st : St) (Q : SF → St → Prop) : Prop := ∀ R s, Rel C R st s → wpAny C.M C.A t (FP C R Q) NoE s

theorem Ev.mono {C : Cx} {t : Sem Value} {st : St} {Q Q' : SV → St → Prop} (h : Ev C t st Q) (hq : ∀ v st, Q v st → Q' v st) : Ev C t st Q' := fun R s r =>
  wpAny_mono (h R s r) (fun _ _ ⟨R', g, sv, st', a, b, c⟩ => ⟨R', g, sv, st', a, b, hq _ _ c⟩) fun _ _ e => e
theorem Et.mono {C : Cx} {t : Sem Bool} {st : St} {Q Q' : Bool → St → Prop} (h : Et C t st Q) (hq : ∀ v st, Q v st → Q' v st) : Et C t st Q' := fun R s r =>
  wpAny_mono (h R s r) (fun _ _ ⟨R', g, st', a, c⟩ => ⟨R', g, st', a, hq _ _ c⟩) fun _ _ e => e
theorem Es.mono {C : Cx} {t : Sem Flow} {st : St} {Q Q' : SF → St → Prop} (h : Es C t st Q) (hq : ∀ v st, Q v st → Q' v st) : Es C t st Q' := fun R s r =>
  wpAny_mono (h R s r) (fun _ _ ⟨R', g, sv, st', a, b, c⟩ => ⟨R', g, sv, st', a, b, hq _ _ c⟩) fun _ _ e => e
end Mine
end

section
open PySem PySem.W PySem.Calls PyProof.Rows
noncomputable section
set_option Elab.async false
set_option maxRecDepth 100000
set_option autoImplicit false
set_option linter.unusedVariables false
set_option linter.unusedVariables false
namespace Mine

noncomputable def svOf : Value → SV
  | .none => .none
  | .bool b => .bool true b
  | .int i _ => .int true i
  | .str s _ => .str true s.cps.toList
  | v => .con v
theorem svOf_ok {R : Frz} (v : Value) : VR R (svOf v) v := by
  induction v <;> first | exact .none | exact .bool | exact .int | exact .con | skip
  rename_i s t
  induction s with | mk a =>
  have h : ∀ l : List Nat, VR R (.str true l) (.str ⟨l.toArray⟩ t) := fun l => .str
  exact h a.toList

/-! names -/
noncomputable def evName (C : Cx) (x : Str) (st : St) (Q : SV → St → Prop) : Prop :=
  match lk C.scope.names x with
  | some .local => match lk st.loc x with | some v => Q v st | none => False
  | some .globalImplicit => match eqS x "__debug__" with | true => False | false => match lk C.glb x with | some v => Q (svOf v) st | none => False
  | some .cell => match lk C.cvs x with | some v => Q v st | none => False
  | some .free => match eqS x "__classdict__" with | true => False | false => match lk C.cvs x with | some v => Q v st | none => False
  | _ => False

theorem lk_lookup {α : Type} (x : Str) : ∀ l : List (Str × α), l.lookup x = lk l x
  | [] => rfl
  | (y, v) :: r => by
    refine rg (lk_cons ..) (rg (List.lookup_cons ..) ?_)
    cases h : eqS y x with
    | true => refine rg (eqS_iff.mp h) ?_; simp
    | false =>
      have : (x == y) = false := by simpa using fun q => eqS_ne h (Eq.symm q)
      refine rg this ?_; exact lk_lookup x r

theorem evName_ok {C : Cx} (ok : C.Ok) {x : Str} {pos : Pos} {st : St} {Q : SV → St → Prop} (hd : eqS x "__debug__" = false) (h : evName C x st Q) : Ev C (eval (.Name x pos) C.env) st Q := by
  have hd' : (x == ("__debug__" : Str)) = false := by simpa using eqS_ne hd
  intro R s r
  unfold evName at h
  have hk : C.env.kindOf x = lk C.scope.names x := lk_lookup x _
  obtain ⟨m, F, hl⟩ := r.fr
  cases e : lk C.scope.names x with
  | none => replace h := e ▸ h; exact h.elim
  | some k =>
    replace h := e ▸ h
    induction k <;> first | exact False.elim h | skip
    · replace h : (match lk st.loc x with | some v => Q v st | none => False) := h
      cases hv : lk st.loc x with
      | none => replace h := hv ▸ h; exact h.elim
      | some v =>
        replace h := hv ▸ h
        obtain ⟨val, a, b⟩ := hl x v hv
        exact nameX_L F a ⟨R, .rfl, v, st, r, b, h⟩ ok.hk (hk.trans e) hd'
    · replace h : (match lk C.cvs x with | some v => Q v st | none => False) := h
      cases hv : lk C.cvs x with
      | none => replace h := hv ▸ h; exact h.elim
      | some v =>
        replace h := hv ▸ h
        obtain ⟨c, o, val, a, b, d, e'⟩ := r.cvs x v hv
        exact wpAny_Name (wpAny_loadName_cell ok.hk (hk.trans e) a ⟨o, (r.frz c o b).1, d⟩ ⟨R, .rfl, v, st, r, e', h⟩) hd'
    · cases hn : eqS x "__classdict__" with
      | true => replace h := hn ▸ h; exact h.elim
      | false =>
        replace h : (match lk C.cvs x with | some v => Q v st | none => False) := by replace h := hn ▸ h; exact h
        cases hv : lk C.cvs x with
        | none => replace h := hv ▸ h; exact h.elim
        | some v =>
          replace h := hv ▸ h
          obtain ⟨c, o, val, a, b, d, e'⟩ := r.cvs x v hv
          exact wpAny_Name (wpAny_loadName_free ok.hk (hk.trans e) a ⟨o, (r.frz c o b).1, d⟩ ⟨R, .rfl, v, st, r, e', h⟩ (by simpa using eqS_ne hn)) hd'
    · replace h : (match lk C.glb x with | some v => Q (svOf v) st | none => False) := by replace h := hd ▸ h; exact h
      cases hv : lk C.glb x with
      | none => replace h := hv ▸ h; exact h.elim
      | some v =>
        replace h := hv ▸ h
        obtain ⟨p, loose, mg, mb, T⟩ := ok.top
        rcases ok.glb x v hv with q | ⟨q1, q2, q3⟩
        · exact nameX_K F ok.X T q ⟨R, .rfl, svOf v, st, r, svOf_ok v, h⟩ ok.hk (hk.trans e) hd'
        · exact nameX_B F ok.X T q1 q2 q3 ⟨R, .rfl, svOf v, st, r, svOf_ok v, h⟩ ok.hk (hk.trans e) hd'

/-! two values -/
noncomputable def E2 (C : Cx) (t : Value → Value → Sem Value) (a b : SV) (st : St) (Q : SV → St → Prop) : Prop :=
  ∀ R s v w, Rel C R st s → VR R a v → VR R b w → wpAny C.M C.A (t v w) (VP C R Q) NoE s
noncomputable def szB : Nat := 1000000

noncomputable def small (c : Bool) (n : Nat) (P : Prop) : Prop := match c with
  | true => match Nat.ble n szB with | true => P | false => False
  | false => n ≤ szB ∧ P
theorem small_ok {c : Bool} {n : Nat} {P : Prop} (h : small c n P) : n ≤ szB ∧ P := by
  induction c
  · exact h
  · unfold small at h
    dsimp only at h
    split at h
    · rename_i e; exact ⟨Nat.le_of_ble_eq_true e, h⟩
    · exact h.elim
noncomputable def branch (c b : Bool) (P P' : Prop) : Prop := match c with
  | true => match b with | true => P | false => P'
  | false => (b = true → P) ∧ (b = false → P')
theorem branch_ok {c b : Bool} {P P' : Prop} (h : branch c b P P') : if b = true then P else P' := by
  induction c
  · induction b
    · exact h.2 rfl
    · exact h.1 rfl
  · induction b <;> exact h

/-! cell of a list -/
noncomputable def withList (st : St) (k : Nat) (a : Addr) (P : List SV → Prop) : Prop :=
  match mlk st.mem k with
  | some ⟨_, a', .list xs⟩ => a' = a ∧ P xs
  | _ => False
theorem mlk_key : ∀ {l : List Cell} {k : Nat} {c : Cell}, mlk l k = some c → c.k = k
  | [], _, _, h => by exact nsE h
  | d :: r, k, c, h => by
    rw [mlk_cons] at h
    cases q : Nat.beq d.k k with
    | true => replace h := q ▸ h; obtain rfl := Option.some.inj h; exact Nat.eq_of_beq_eq_true q
    | false => replace h := q ▸ h; exact mlk_key h
inductive ListOf (R : Frz) (st : St) (s : Shared) (k : Nat) (a : Addr) (P : List SV → Prop) : Prop
  | mk (xs : List SV) (vs : List Value) (n : Nat) (e1 : mlk st.mem k = some ⟨k, a, .list xs⟩) (e2 : VRs R xs vs) (e3 : s.heap.get? a = some (listO vs n)) (q : P xs) : ListOf R st s k a P
theorem Rel.list {C : Cx} {R : Frz} {st : St} {s : Shared} {k : Nat} {a : Addr} {P : List SV → Prop} (r : Rel C R st s) (h : withList st k a P) : ListOf R st s k a P := by
  unfold withList at h
  cases e : mlk st.mem k with
  | none => replace h := e ▸ h; exact h.elim
  | some c =>
    replace h := e ▸ h
    obtain ⟨k', a', o⟩ := c
    induction o with
    | list xs =>
      obtain ⟨rfl, hp⟩ := h
      obtain ⟨o, h1, h2, h3, h4⟩ := r.mem _ (mlk_mem e)
      obtain rfl : k' = k := mlk_key e
      cases h1 with
      | list hv => exact ⟨xs, _, _, e, hv, h2, hp⟩
    | _ => exact False.elim h
theorem isList_of {h : Heap} {a : Addr} {vs : List Value} {n : Nat} (e : h.get? a = some (listO vs n)) : h.IsList a vs.toArray := ⟨_, e, rfl, n, rfl⟩

noncomputable def newL (st : St) (xs : List SV) (Q : SV → St → Prop) (a : Addr) : Prop := Q (.ref st.nk a) { st with mem := ⟨st.nk, a, .list xs⟩ :: st.mem, nk := st.nk + 1 }

/-! binary operations -/
noncomputable def addS (C : Cx) (a b : SV) (st : St) (Q : SV → St → Prop) : Prop :=
  match a with
  | .str c x => match b with
    | .str d y => small (c && d) (x.length + y.length) (Q (.str (c && d) (x ++ y)) st)
    | b => E2 C (binaryOp .Add) (.str c x) b st Q
  | .int c x => match b with
    | .int d y => Q (.int (c && d) (x + y)) st
    | b => E2 C (binaryOp .Add) (.int c x) b st Q
  | .ref k l => match b with
    | .ref k' l' => withList st k l fun xs => withList st k' l' fun ys => xs.length + ys.length ≤ szB ∧ ∀ a, newL st (xs ++ ys) Q a
    | b => E2 C (binaryOp .Add) (.ref k l) b st Q
  | a => E2 C (binaryOp .Add) a b st Q
noncomputable def divS (C : Cx) (op : Operator) (f : Int → Int → Int) (a b : SV) (st : St) (Q : SV → St → Prop) : Prop :=
  match a with
  | .int c x => match b with
    | .int d y => match d with
      | true => match decide (0 < y ∧ y < 1000000000) with | true => Q (.int c (f x y)) st | false => False
      | false => E2 C (binaryOp op) (.int c x) (.int false y) st Q
    | b => E2 C (binaryOp op) (.int c x) b st Q
  | a => E2 C (binaryOp op) a b st Q
noncomputable def subI (C : Cx) (a b : SV) (st : St) (Q : SV → St → Prop) : Prop :=
  match a with
  | .int c x => match b with
    | .int d y => Q (.int (c && d) (x - y)) st
    | b => E2 C (binaryOp .Sub) (.int c x) b st Q
  | a => E2 C (binaryOp .Sub) a b st Q
noncomputable def binS (C : Cx) (op : Operator) (a b : SV) (st : St) (Q : SV → St → Prop) : Prop :=
  match op with
  | .Add => addS C a b st Q
  | .Sub => subI C a b st Q
  | .Mod => divS C .Mod Int.fmod a b st Q
  | .FloorDiv => divS C .FloorDiv Int.fdiv a b st Q
  | op => E2 C (binaryOp op) a b st Q
theorem str_append (x y : List Nat) : (⟨x.toArray⟩ : Str) ++ (⟨y.toArray⟩ : Str) = ⟨(x ++ y).toArray⟩ := by
  refine (?_ : Str.append _ _ = _)
  unfold Str.append
  simp
theorem str_len (x : List Nat) : (⟨x.toArray⟩ : Str).length = x.length := by
  unfold Str.length; simp
theorem szB_line : szB ≤ sizeLine := by refine rg sizeLine_eq ?_; decide
theorem E2.strs {C : Cx} {f : Value → Value → Sem Value} {c d : Bool} {x y : List Nat} {st : St} {Q : SV → St → Prop} (h : ∀ R s t u, Rel C R st s → wpAny C.M C.A (f (.str ⟨x.toArray⟩ t) (.str ⟨y.toArray⟩ u)) (VP C R Q) NoE s) : E2 C f (.str c x) (.str d y) st Q := by
  intro R s v w r hv hw; (first | obtain ⟨_, rfl⟩ := VR.str' hv | obtain ⟨_, rfl⟩ := VR.int' hv | obtain rfl := VR.ref' hv | obtain rfl := VR.con' hv | obtain ⟨_, rfl, _⟩ := VR.bm' hv | obtain ⟨rfl, _⟩ := VR.fz' hv | obtain rfl := VR.bool' hv | obtain rfl := VR.none' hv | cases hv); (first | obtain ⟨_, rfl⟩ := VR.str' hw | obtain ⟨_, rfl⟩ := VR.int' hw | obtain rfl := VR.ref' hw | obtain rfl := VR.con' hw | obtain ⟨_, rfl, _⟩ := VR.bm' hw | obtain ⟨rfl, _⟩ := VR.fz' hw | obtain rfl := VR.bool' hw | obtain rfl := VR.none' hw | cases hw); exact h _ _ _ _ r
theorem E2.ints {C : Cx} {f : Value → Value → Sem Value} {c d : Bool} {x y : Int} {st : St} {Q : SV → St → Prop} (h : ∀ R s t u, Rel C R st s → wpAny C.M C.A (f (.int x t) (.int y u)) (VP C R Q) NoE s) : E2 C f (.int c x) (.int d y) st Q := by
  intro R s v w r hv hw; (first | obtain ⟨_, rfl⟩ := VR.str' hv | obtain ⟨_, rfl⟩ := VR.int' hv | obtain rfl := VR.ref' hv | obtain rfl := VR.con' hv | obtain ⟨_, rfl, _⟩ := VR.bm' hv | obtain ⟨rfl, _⟩ := VR.fz' hv | obtain rfl := VR.bool' hv | obtain rfl := VR.none' hv | cases hv); (first | obtain ⟨_, rfl⟩ := VR.str' hw | obtain ⟨_, rfl⟩ := VR.int' hw | obtain rfl := VR.ref' hw | obtain rfl := VR.con' hw | obtain ⟨_, rfl, _⟩ := VR.bm' hw | obtain ⟨rfl, _⟩ := VR.fz' hw | obtain rfl := VR.bool' hw | obtain rfl := VR.none' hw | cases hw); exact h _ _ _ _ r
theorem E2.refs {C : Cx} {f : Value → Value → Sem Value} {k k' : Nat} {x y : Addr} {st : St} {Q : SV → St → Prop} (h : ∀ R s, Rel C R st s → wpAny C.M C.A (f (.ref x) (.ref y)) (VP C R Q) NoE s) : E2 C f (.ref k x) (.ref k' y) st Q := by
  intro R s v w r hv hw; (first | obtain ⟨_, rfl⟩ := VR.str' hv | obtain ⟨_, rfl⟩ := VR.int' hv | obtain rfl := VR.ref' hv | obtain rfl := VR.con' hv | obtain ⟨_, rfl, _⟩ := VR.bm' hv | obtain ⟨rfl, _⟩ := VR.fz' hv | obtain rfl := VR.bool' hv | obtain rfl := VR.none' hv | cases hv); (first | obtain ⟨_, rfl⟩ := VR.str' hw | obtain ⟨_, rfl⟩ := VR.int' hw | obtain rfl := VR.ref' hw | obtain rfl := VR.con' hw | obtain ⟨_, rfl, _⟩ := VR.bm' hw | obtain ⟨rfl, _⟩ := VR.fz' hw | obtain rfl := VR.bool' hw | obtain rfl := VR.none' hw | cases hw); exact h _ _ r
theorem addS_ok {C : Cx} {a b : SV} {st : St} {Q : SV → St → Prop} (h : addS C a b st Q) : E2 C (binaryOp .Add) a b st Q := by
  induction a using SV.casesOn with
  | str c x =>
    induction b using SV.casesOn with
    | str d y =>
      obtain ⟨h1, h2⟩ := small_ok h
      refine E2.strs fun R s t u r => add_str (fun t' tk => ?_) (by refine rg (str_len ..) (rg (str_len ..) ?_); exact Nat.le_trans h1 szB_line)
      refine rg (str_append ..) ?_
      exact ⟨R, .rfl, _, st, r.toks _, .str, h2⟩
    | _ => exact h
  | int c x =>
    induction b using SV.casesOn with
    | int d y => exact E2.ints fun R s t u r => add_int ⟨R, .rfl, _, st, r.toks _, .int, h⟩
    | _ => exact h
  | ref k l =>
    induction b using SV.casesOn with
    | ref k' l' =>
      refine E2.refs fun R s r => ?_
      obtain ⟨xs, vs, n, e1, e2, e3, h⟩ := r.list h
      obtain ⟨ys, ws, n', e4, e5, e6, h1, h⟩ := r.list h
      obtain ⟨m, F, hl⟩ := r.fr
      refine add_lists F allNews_ok (isList_of e3) (isList_of e6) (fun h' F' N' => ?_) (by refine rl e2.len (rl e5.len ?_); exact Nat.le_trans h1 szB_line)
      have r' : Rel C R st { s with heap := h' } := r.frn (extra := [_]) F hl F' N'
      exact ⟨R, .rfl, _, _, r.add r' (Nat.le_refl _) (N' _ (.head _)).1 (.list (n := 0) (e2.append e5)), .ref, h _⟩
    | _ => exact h
  | _ => exact h
theorem subI_ok {C : Cx} {a b : SV} {st : St} {Q : SV → St → Prop} (h : subI C a b st Q) : E2 C (binaryOp .Sub) a b st Q := by
  induction a using SV.casesOn with
  | int c x =>
    induction b using SV.casesOn with
    | int d y => exact E2.ints fun R s t u r => sub_int ⟨R, .rfl, _, st, r.toks _, .int, h⟩
    | _ => exact h
  | _ => exact h
theorem divS_ok {C : Cx} {op : Operator} {f : Int → Int → Int} {a b : SV} {st : St} {Q : SV → St → Prop} (h : divS C op f a b st Q)
    (hf : ∀ (c : Bool) (x y : Int) (R : Frz) (s : Shared) (t u : Tok), 0 < y ∧ y < 1000000000 → Rel C R st s → Q (.int c (f x y)) st → wpAny C.M C.A (binaryOp op (.int x t) (.int y u)) (VP C R Q) NoE s) : E2 C (binaryOp op) a b st Q := by
  induction a using SV.casesOn with
  | int c x =>
    induction b using SV.casesOn with
    | int d y =>
      induction d with
      | false => exact h
      | true =>
        replace h : (match decide (0 < y ∧ y < 1000000000) with | true => Q (.int c (f x y)) st | false => False) := h
        cases e : decide (0 < y ∧ y < 1000000000) with
        | false => replace h := e ▸ h; exact h.elim
        | true => replace h := e ▸ h; exact E2.ints fun R s t u r => hf c x y R s t u (of_decide_eq_true e) r h
    | _ => exact h
  | _ => exact h
theorem binS_ok {C : Cx} (ok : C.Ok) {op : Operator} {a b : SV} {st : St} {Q : SV → St → Prop} (h : binS C op a b st Q) : E2 C (binaryOp op) a b st Q := by
  induction op with
  | Add => exact addS_ok h
  | Sub => exact subI_ok h
  | Mod => exact divS_ok h fun c x y R s t u e r q => mod_int (by lia) ⟨R, .rfl, _, st, r.toks _, .int, q⟩
  | FloorDiv => exact divS_ok h fun c x y R s t u e r q => floordiv_int (by lia) ⟨R, .rfl, _, st, r.toks _, .int, q⟩ (.inl (PyProof.noPylong_small (by lia)))
  | _ => exact h
end Mine
end
end

section
open PySem PySem.W PySem.Calls PyProof.Rows
noncomputable section
set_option Elab.async false
set_option maxRecDepth 100000
set_option autoImplicit false
set_option linter.unusedVariables false
set_option linter.unusedVariables false
namespace Mine

/-- a truth value of one value; of a comparison -/
noncomputable def T1 (C : Cx) (a : SV) (st : St) (Q : Bool → Bool → St → Prop) : Prop :=
  ∀ R s v, Rel C R st s → VR R a v → wpAny C.M C.A (truthy v) (CP C R Q) NoE s
noncomputable def T2 (C : Cx) (op : CmpOp) (a b : SV) (st : St) (Q : Bool → Bool → St → Prop) : Prop :=
  ∀ R s v w, Rel C R st s → VR R a v → VR R b w → wpAny C.M C.A (compareOp op v w) (XP C R Q) NoE s

noncomputable def inOp (n : Bool) : CmpOp := match n with | true => .NotIn | false => .In
noncomputable def isOp (n : Bool) : CmpOp := match n with | true => .IsNot | false => .Is
noncomputable def notNil {α : Type} : List α → Bool
  | [] => false
  | _ :: _ => true
theorem notNil_len {α : Type} (l : List α) : ((l.length : Int) != 0) = notNil l := by
  induction l with
  | nil => rfl
  | cons a r =>
    have : ((List.length (a :: r) : Int)) ≠ 0 := by simp only [List.length_cons]; lia
    refine (?_ : _ = true)
    simpa using this

noncomputable def truRef (C : Cx) (k : Nat) (a : Addr) (st : St) (Q : Bool → Bool → St → Prop) (o : Option Cell) : Prop := match o with
  | some c => match c.o with
    | .list _ => withList st k a fun xs => xs.length ≤ szB ∧ Q false (notNil xs) st
    | _ => T1 C (.ref k a) st Q
  | none => T1 C (.ref k a) st Q
noncomputable def truS (C : Cx) (a : SV) (st : St) (Q : Bool → Bool → St → Prop) : Prop :=
  match a with
  | .none => Q true false st
  | .bool c b => Q c b st
  | .int c i => Q c (i != 0) st
  | .str c x => small c x.length (Q c (notNil x) st)
  | .ref k a => truRef C k a st Q (mlk st.mem k)
  | a => T1 C a st Q
theorem CP.now {C : Cx} {R : Frz} {s : Shared} {st : St} {Q : Bool → Bool → St → Prop} {c b : Bool} (r : Rel C R st s) (h : Q c b st) : CP C R Q b s := ⟨R, .rfl, _, st, r, h⟩
theorem truList {C : Cx} {k : Nat} {a : Addr} {st : St} {Q : Bool → Bool → St → Prop} (h : withList st k a fun xs => xs.length ≤ szB ∧ Q false (notNil xs) st) : T1 C (.ref k a) st Q := by
  intro R s v r hv; obtain rfl := hv.ref'
  obtain ⟨xs, vs, n, e1, e2, e3, h1, h2⟩ := r.list h
  have hl := e2.len
  unfold szB at h1
  refine wpAny_truthy_list (isList_of e3) (by simp only [List.size_toArray]; lia) ?_
  have : (!vs.toArray.isEmpty) = notNil xs := by
    induction xs <;> induction vs <;> simp at hl <;> rfl
  refine rg this ?_
  exact CP.now (r.toks _) h2
theorem truS_ok {C : Cx} (ok : C.Ok) {a : SV} {st : St} {Q : Bool → Bool → St → Prop} (h : truS C a st Q) : T1 C a st Q := by
  induction a using SV.casesOn with
  | none => intro R s v r hv; obtain rfl := hv.none'; exact truthy_none (CP.now r h)
  | bool c b => intro R s v r hv; obtain rfl := hv.bool'; exact wpAny_truthy_bool (CP.now r h)
  | int c i => intro R s v r hv; obtain ⟨_, rfl⟩ := hv.int'; exact PyProof.Rows.truthy_int (CP.now r h)
  | str c x =>
    intro R s v r hv; obtain ⟨_, rfl⟩ := hv.str'
    obtain ⟨h1, h2⟩ := small_ok h
    refine PySem.P.truthy_str (by refine rg (str_len ..) ?_; unfold szB at h1; lia) ?_
    refine rg (str_len ..) (rg (notNil_len ..) ?_)
    exact CP.now (r.toks _) h2
  | ref k a =>
    replace h : truRef C k a st Q (mlk st.mem k) := h
    cases q : mlk st.mem k with
    | none => replace h := q ▸ h; exact h
    | some c =>
      replace h := q ▸ h
      obtain ⟨k', a', o⟩ := c
      induction o with
      | list xs => exact truList h
      | _ => exact h
  | _ => exact h

noncomputable def strsOf : List SV → Option (Bool × List (List Nat))
  | [] => some (true, [])
  | .str c x :: r => match strsOf r with | some (d, l) => some (c && d, x :: l) | none => none
  | _ => none
noncomputable def intsOf : List SV → Option (Bool × List Int)
  | [] => some (true, [])
  | .int c x :: r => match intsOf r with | some (d, l) => some (c && d, x :: l) | none => none
  | _ => none
noncomputable def anyS (x : List Nat) : List (List Nat) → Bool
  | [] => false
  | y :: r => match eqL y x with | true => true | false => anyS x r
noncomputable def anyI (x : Int) : List Int → Bool
  | [] => false
  | y :: r => match y == x with | true => true | false => anyI x r
theorem strsOf_ok {R : Frz} : ∀ {xs : List SV} {c : Bool} {l : List (List Nat)}, strsOf xs = some (c, l) → ∀ {vs : List Value}, VRs R xs vs → StrsAre vs (l.map fun x => (⟨x.toArray⟩ : Str))
  | [], c, l, h, vs, hv => by obtain ⟨rfl, rfl⟩ := Prod.mk.inj (Option.some.inj h); refine rg hv.unnil ?_; exact .nil
  | .str d x :: r, c, l, h, vs, hv => by
    unfold strsOf at h
    split at h
    · rename_i d' l' e
      obtain ⟨rfl, rfl⟩ := Prod.mk.inj (Option.some.inj h)
      obtain ⟨v, t, rfl, h1, h2⟩ := hv.uncons
      cases h1
      exact .cons _ _ (strsOf_ok e h2)
    · exact nsE h
  | .none :: r, _, _, h, _, _ => by exact nsE h
  | .bool .. :: r, _, _, h, _, _ => by exact nsE h
  | .int .. :: r, _, _, h, _, _ => by exact nsE h
  | .ref .. :: r, _, _, h, _, _ => by exact nsE h
  | .con .. :: r, _, _, h, _, _ => by exact nsE h
  | .seq .. :: r, _, _, h, _, _ => by exact nsE h
  | .bm .. :: r, _, _, h, _, _ => by exact nsE h
  | .fz .. :: r, _, _, h, _, _ => by exact nsE h
  | .any :: r, _, _, h, _, _ => by exact nsE h
theorem intsOf_ok {R : Frz} : ∀ {xs : List SV} {c : Bool} {l : List Int}, intsOf xs = some (c, l) → ∀ {vs : List Value}, VRs R xs vs → IntsAre vs l
  | [], c, l, h, vs, hv => by obtain ⟨rfl, rfl⟩ := Prod.mk.inj (Option.some.inj h); refine rg hv.unnil ?_; exact .nil
  | .int d x :: r, c, l, h, vs, hv => by
    unfold intsOf at h
    split at h
    · rename_i d' l' e
      obtain ⟨rfl, rfl⟩ := Prod.mk.inj (Option.some.inj h)
      obtain ⟨v, t, rfl, h1, h2⟩ := hv.uncons
      cases h1
      exact .cons _ _ (intsOf_ok e h2)
    · exact nsE h
  | .none :: r, _, _, h, _, _ => by exact nsE h
  | .bool .. :: r, _, _, h, _, _ => by exact nsE h
  | .str .. :: r, _, _, h, _, _ => by exact nsE h
  | .ref .. :: r, _, _, h, _, _ => by exact nsE h
  | .con .. :: r, _, _, h, _, _ => by exact nsE h
  | .seq .. :: r, _, _, h, _, _ => by exact nsE h
  | .bm .. :: r, _, _, h, _, _ => by exact nsE h
  | .fz .. :: r, _, _, h, _, _ => by exact nsE h
  | .any :: r, _, _, h, _, _ => by exact nsE h
theorem beq_str (x y : List Nat) : ((⟨x.toArray⟩ : Str) == (⟨y.toArray⟩ : Str)) = eqL x y := by
  cases h : eqL x y with
  | true => refine rg (eqL_iff.mp h) ?_; simp
  | false =>
    have : ¬ x = y := fun q => by replace h := (eqL_iff.mpr q) ▸ h; exact tfE h
    simpa using this
theorem any_strs (x : List Nat) : ∀ l : List (List Nat), ((l.map fun x => (⟨x.toArray⟩ : Str)).any (· == (⟨x.toArray⟩ : Str))) = anyS x l
  | [] => rfl
  | y :: r => by
    rw [List.map_cons, List.any_cons, any_strs x r, beq_str]
    cases h : eqL y x <;> simp [anyS, h]
theorem any_ints (x : Int) : ∀ l : List Int, l.any (· == x) = anyI x l
  | [] => rfl
  | y :: r => by
    refine rg List.any_cons (rg (any_ints x r) ?_)
    cases h : y == x <;> simp only [anyI, h] <;> rfl

noncomputable def subIn (y x : List Nat) : Bool := !(Builtin.Str.occurrences ⟨x.toArray⟩ ⟨y.toArray⟩ 0 x.length 1).isEmpty
noncomputable def mbr (c : Nat) (x : List Nat) : Bool := List.rec false (fun y _ ih => Bool.rec ih true (Nat.beq c y)) x
theorem mbr_cons (c y : Nat) (r : List Nat) : mbr c (y :: r) = match Nat.beq c y with | true => true | false => mbr c r := by
  refine (?_ : (Bool.rec (motive := fun _ => Bool) (mbr c r) true (Nat.beq c y)) = _)
  cases Nat.beq c y <;> rfl
theorem mbr_iff {c : Nat} : ∀ {x : List Nat}, mbr c x = true ↔ c ∈ x
  | [] => by simp [mbr]
  | y :: r => by
    rw [mbr_cons, List.mem_cons]
    cases h : Nat.beq c y with
    | true => simp [Nat.eq_of_beq_eq_true h]
    | false =>
      have : c ≠ y := fun q => by subst q; rw [Nat.beq_refl] at h; exact tfE h
      simp only [this, false_or]
      exact mbr_iff
theorem subIn_one (c : Nat) (x : List Nat) : subIn [c] x = mbr c x := by
  have h := PySem.StrLaws.found_one ⟨x.toArray⟩ c
  have e : subIn [c] x = decide (c ∈ x) := h
  refine rg e ?_
  cases q : mbr c x with
  | true => exact decide_eq_true (mbr_iff.mp q)
  | false => exact decide_eq_false fun z => by replace q := (mbr_iff.mpr z) ▸ q; exact tfE q
noncomputable def hasS (y x : List Nat) : Bool := match y with
  | [c] => mbr c x
  | y => subIn y x
theorem hasS_eq (y x : List Nat) : hasS y x = subIn y x := by
  rcases y with _ | ⟨c, _ | ⟨d, y⟩⟩
  · rfl
  · exact (subIn_one _ _).symm
  · rfl
noncomputable def isNone : SV → Option Bool
  | .none => some true
  | .bool .. | .int .. | .str .. | .ref .. | .seq .. | .bm .. | .fz .. => some false
  | _ => none
noncomputable def neg (n : Bool) (Q : Bool → Bool → St → Prop) : Bool → Bool → St → Prop := fun c b st => Q c (match n with | true => !b | false => b) st
noncomputable def inStrs (n : Bool) (c : Bool) (y : List Nat) (xs : List SV) (st : St) (Q : Bool → Bool → St → Prop) : Prop :=
  match strsOf xs with | some (d, l) => neg n Q (c && d) (anyS y l) st | none => False
noncomputable def inInts (n : Bool) (c : Bool) (y : Int) (xs : List SV) (st : St) (Q : Bool → Bool → St → Prop) : Prop :=
  match intsOf xs with | some (d, l) => neg n Q (c && d) (anyI y l) st | none => False
noncomputable def inS (C : Cx) (n : Bool) (a b : SV) (st : St) (Q : Bool → Bool → St → Prop) : Prop :=
  match a with
  | .str c y => match b with
    | .str d x => neg n Q (c && d) (hasS y x) st
    | .ref k l => withList st k l fun xs => inStrs n c y xs st Q
    | .seq true xs => inStrs n c y xs st Q
    | b => T2 C (inOp n) (.str c y) b st Q
  | .int c y => match b with
    | .ref k l => withList st k l fun xs => inInts n c y xs st Q
    | b => T2 C (inOp n) (.int c y) b st Q
  | a => T2 C (inOp n) a b st Q
noncomputable def isS (C : Cx) (n : Bool) (a b : SV) (st : St) (Q : Bool → Bool → St → Prop) : Prop :=
  match b with
  | .none => match isNone a with | some b => neg n Q true b st | none => T2 C (isOp n) a .none st Q
  | .ref k' y => match a with
    | .ref k x => match Nat.beq k k' with | true => x = y ∧ neg n Q true true st | false => T2 C (isOp n) (.ref k x) (.ref k' y) st Q
    | .str .. => neg n Q true false st
    | a => T2 C (isOp n) a (.ref k' y) st Q
  | .con w => match a with
    | .con v => match v, w with
      | .type x, .type y => neg n Q true (x == y) st
      | v, w => T2 C (isOp n) (.con v) (.con w) st Q
    | a => T2 C (isOp n) a (.con w) st Q
  | b => T2 C (isOp n) a b st Q
noncomputable def eqOp (C : Cx) (a b : SV) (st : St) (Q : Bool → Bool → St → Prop) : Prop :=
  match a with
  | .str c x => match b with
    | .str d y => Q (c && d) (eqL x y) st
    | .none => Q true false st
    | b => T2 C .Eq (.str c x) b st Q
  | .int c x => match b with
    | .int d y => Q (c && d) (x == y) st
    | b => T2 C .Eq (.int c x) b st Q
  | .none => match b with
    | .none => Q true true st
    | .str .. => Q true false st
    | b => T2 C .Eq .none b st Q
  | a => T2 C .Eq a b st Q
noncomputable def neOp (C : Cx) (a b : SV) (st : St) (Q : Bool → Bool → St → Prop) : Prop :=
  match a with
  | .str c x => match b with
    | .str d y => Q (c && d) (!eqL x y) st
    | .none => Q true true st
    | b => T2 C .NotEq (.str c x) b st Q
  | .int c x => match b with
    | .int d y => Q (c && d) (x != y) st
    | b => T2 C .NotEq (.int c x) b st Q
  | .none => match b with
    | .none => Q true false st
    | .str .. => Q true true st
    | b => T2 C .NotEq .none b st Q
  | a => T2 C .NotEq a b st Q
noncomputable def ltOp (C : Cx) (a b : SV) (st : St) (Q : Bool → Bool → St → Prop) : Prop :=
  match a with
  | .int c x => match b with
    | .int d y => Q (c && d) (decide (x < y)) st
    | b => T2 C .Lt (.int c x) b st Q
  | a => T2 C .Lt a b st Q
noncomputable def gtOp (C : Cx) (a b : SV) (st : St) (Q : Bool → Bool → St → Prop) : Prop :=
  match a with
  | .int c x => match b with
    | .int d y => Q (c && d) (decide (y < x)) st
    | b => T2 C .Gt (.int c x) b st Q
  | a => T2 C .Gt a b st Q
noncomputable def leOp (C : Cx) (a b : SV) (st : St) (Q : Bool → Bool → St → Prop) : Prop :=
  match a with
  | .int c x => match b with
    | .int d y => Q (c && d) (decide (x ≤ y)) st
    | b => T2 C .LtE (.int c x) b st Q
  | a => T2 C .LtE a b st Q
noncomputable def geOp (C : Cx) (a b : SV) (st : St) (Q : Bool → Bool → St → Prop) : Prop :=
  match a with
  | .int c x => match b with
    | .int d y => Q (c && d) (decide (y ≤ x)) st
    | b => T2 C .GtE (.int c x) b st Q
  | a => T2 C .GtE a b st Q
noncomputable def cmpS (C : Cx) (op : CmpOp) (a b : SV) (st : St) (Q : Bool → Bool → St → Prop) : Prop :=
  match op with
  | .Eq => eqOp C a b st Q
  | .NotEq => neOp C a b st Q
  | .Lt => ltOp C a b st Q
  | .Gt => gtOp C a b st Q
  | .LtE => leOp C a b st Q
  | .GtE => geOp C a b st Q
  | .In => inS C false a b st Q
  | .NotIn => inS C true a b st Q
  | .Is => isS C false a b st Q
  | .IsNot => isS C true a b st Q

theorem T2.strs {C : Cx} {op : CmpOp} {c d : Bool} {x y : List Nat} {st : St} {Q : Bool → Bool → St → Prop} (h : ∀ R s t u, Rel C R st s → wpAny C.M C.A (compareOp op (.str ⟨x.toArray⟩ t) (.str ⟨y.toArray⟩ u)) (XP C R Q) NoE s) : T2 C op (.str c x) (.str d y) st Q := by
  intro R s v w r hv hw; obtain ⟨_, rfl⟩ := hv.str'; obtain ⟨_, rfl⟩ := hw.str'; exact h _ _ _ _ r
theorem T2.ints {C : Cx} {op : CmpOp} {c d : Bool} {x y : Int} {st : St} {Q : Bool → Bool → St → Prop} (h : ∀ R s t u, Rel C R st s → wpAny C.M C.A (compareOp op (.int x t) (.int y u)) (XP C R Q) NoE s) : T2 C op (.int c x) (.int d y) st Q := by
  intro R s v w r hv hw; obtain ⟨_, rfl⟩ := hv.int'; obtain ⟨_, rfl⟩ := hw.int'; exact h _ _ _ _ r
theorem XP.now {C : Cx} {R : Frz} {s : Shared} {st : St} {Q : Bool → Bool → St → Prop} {c b : Bool} (r : Rel C R st s) (h : Q c b st) : XP C R Q (.bool b) s := ⟨R, .rfl, _, _, st, rfl, r, h⟩

theorem frzTup {C : Cx} {R : Frz} {st : St} {s : Shared} {xs : List SV} {v : Value} (r : Rel C R st s) (h : VR R (.seq true xs) v) : ∃ a vs, v = .ref a ∧ IsTup s.heap a (List.toArray vs) ∧ VRs R xs vs := by
  cases h with
  | seq h hc hd hl hv => exact ⟨_, _, rfl, ⟨_, (r.frz _ _ h).1, hc, _, hd⟩, ⟨hl, hv⟩⟩

theorem inStrs_list {C : Cx} {n c : Bool} {y : List Nat} {xs : List SV} {st : St} {Q : Bool → Bool → St → Prop} {R : Frz} {s : Shared} {l : Addr} {vs : List Value} {m : Nat} {t : Tok} (r : Rel C R st s) (h : inStrs n c y xs st Q)
    (e2 : VRs R xs vs) (e3 : s.heap.get? l = some (listO vs m)) : wpAny C.M C.A (compareOp (inOp n) (.str ⟨y.toArray⟩ t) (.ref l)) (XP C R Q) NoE s := by
  unfold inStrs at h
  split at h
  · rename_i d l' e
    induction n
    · exact in_list_strs (isList_of e3) (strsOf_ok e e2) ⟨R, .rfl, _, _, st, rfl, r, by refine rg (any_strs ..) ?_; exact h⟩
    · exact notin_list_strs (isList_of e3) (strsOf_ok e e2) ⟨R, .rfl, _, _, st, rfl, r, by refine rg (any_strs ..) ?_; exact h⟩
  · exact h.elim
theorem inStrs_tup {C : Cx} {n c : Bool} {y : List Nat} {xs : List SV} {st : St} {Q : Bool → Bool → St → Prop} {R : Frz} {s : Shared} {l : Addr} {vs : List Value} {t : Tok} (r : Rel C R st s) (h : inStrs n c y xs st Q)
    (e2 : VRs R xs vs) (e3 : IsTup s.heap l vs.toArray) : wpAny C.M C.A (compareOp (inOp n) (.str ⟨y.toArray⟩ t) (.ref l)) (XP C R Q) NoE s := by
  unfold inStrs at h
  split at h
  · rename_i d l' e
    induction n
    · exact in_tuple_strs e3 (strsOf_ok e e2) ⟨R, .rfl, _, _, st, rfl, r, by refine rg (any_strs ..) ?_; exact h⟩
    · exact notin_tuple_strs e3 (strsOf_ok e e2) ⟨R, .rfl, _, _, st, rfl, r, by refine rg (any_strs ..) ?_; exact h⟩
  · exact h.elim
theorem inInts_list {C : Cx} {n c : Bool} {y : Int} {xs : List SV} {st : St} {Q : Bool → Bool → St → Prop} {R : Frz} {s : Shared} {l : Addr} {vs : List Value} {m : Nat} {t : Tok} (r : Rel C R st s) (h : inInts n c y xs st Q)
    (e2 : VRs R xs vs) (e3 : s.heap.get? l = some (listO vs m)) : wpAny C.M C.A (compareOp (inOp n) (.int y t) (.ref l)) (XP C R Q) NoE s := by
  unfold inInts at h
  split at h
  · rename_i d l' e
    induction n
    · exact in_list_ints (isList_of e3) (intsOf_ok e e2) ⟨R, .rfl, _, _, st, rfl, r, by refine rg (any_ints ..) ?_; exact h⟩
    · exact notin_list_ints (isList_of e3) (intsOf_ok e e2) ⟨R, .rfl, _, _, st, rfl, r, by refine rg (any_ints ..) ?_; exact h⟩
  · exact h.elim
theorem inS_ok {C : Cx} (ok : C.Ok) {n : Bool} {a b : SV} {st : St} {Q : Bool → Bool → St → Prop} (h : inS C n a b st Q) : T2 C (inOp n) a b st Q := by
  induction a using SV.casesOn with
  | str c y =>
    induction b using SV.casesOn with
    | str d x =>
      intro R s v w r hv hw; (first | obtain ⟨_, rfl⟩ := VR.str' hv | obtain ⟨_, rfl⟩ := VR.int' hv | obtain rfl := VR.ref' hv | obtain rfl := VR.con' hv | obtain ⟨_, rfl, _⟩ := VR.bm' hv | obtain ⟨rfl, _⟩ := VR.fz' hv | obtain rfl := VR.bool' hv | obtain rfl := VR.none' hv | cases hv); (first | obtain ⟨_, rfl⟩ := VR.str' hw | obtain ⟨_, rfl⟩ := VR.int' hw | obtain rfl := VR.ref' hw | obtain rfl := VR.con' hw | obtain ⟨_, rfl, _⟩ := VR.bm' hw | obtain ⟨rfl, _⟩ := VR.fz' hw | obtain rfl := VR.bool' hw | obtain rfl := VR.none' hw | cases hw)
      have h : neg n Q (c && d) (hasS y x) st := h
      rw [hasS_eq] at h
      induction n
      · exact PyProof.Rows.in_str ⟨R, .rfl, _, _, st, rfl, r, by refine rg (str_len ..) ?_; exact h⟩
      · exact PyProof.Rows.notIn_str ⟨R, .rfl, _, _, st, rfl, r, by refine rg (str_len ..) ?_; exact h⟩
    | ref k l =>
      intro R s v w r hv hw; (first | obtain ⟨_, rfl⟩ := VR.str' hv | obtain ⟨_, rfl⟩ := VR.int' hv | obtain rfl := VR.ref' hv | obtain rfl := VR.con' hv | obtain ⟨_, rfl, _⟩ := VR.bm' hv | obtain ⟨rfl, _⟩ := VR.fz' hv | obtain rfl := VR.bool' hv | obtain rfl := VR.none' hv | cases hv); (first | obtain ⟨_, rfl⟩ := VR.str' hw | obtain ⟨_, rfl⟩ := VR.int' hw | obtain rfl := VR.ref' hw | obtain rfl := VR.con' hw | obtain ⟨_, rfl, _⟩ := VR.bm' hw | obtain ⟨rfl, _⟩ := VR.fz' hw | obtain rfl := VR.bool' hw | obtain rfl := VR.none' hw | cases hw)
      obtain ⟨xs, vs, m, e1, e2, e3, h⟩ := r.list h
      exact inStrs_list r h e2 e3
    | seq tup xs =>
      induction tup
      · exact h
      · intro R s v w r hv hw; (first | obtain ⟨_, rfl⟩ := VR.str' hv | obtain ⟨_, rfl⟩ := VR.int' hv | obtain rfl := VR.ref' hv | obtain rfl := VR.con' hv | obtain ⟨_, rfl, _⟩ := VR.bm' hv | obtain ⟨rfl, _⟩ := VR.fz' hv | obtain rfl := VR.bool' hv | obtain rfl := VR.none' hv | cases hv)
        obtain ⟨a, vs, rfl, e1, e2⟩ := frzTup r hw
        exact inStrs_tup r h e2 e1
    | _ => exact h
  | int c y =>
    induction b using SV.casesOn with
    | ref k l =>
      intro R s v w r hv hw; (first | obtain ⟨_, rfl⟩ := VR.str' hv | obtain ⟨_, rfl⟩ := VR.int' hv | obtain rfl := VR.ref' hv | obtain rfl := VR.con' hv | obtain ⟨_, rfl, _⟩ := VR.bm' hv | obtain ⟨rfl, _⟩ := VR.fz' hv | obtain rfl := VR.bool' hv | obtain rfl := VR.none' hv | cases hv); (first | obtain ⟨_, rfl⟩ := VR.str' hw | obtain ⟨_, rfl⟩ := VR.int' hw | obtain rfl := VR.ref' hw | obtain rfl := VR.con' hw | obtain ⟨_, rfl, _⟩ := VR.bm' hw | obtain ⟨rfl, _⟩ := VR.fz' hw | obtain rfl := VR.bool' hw | obtain rfl := VR.none' hw | cases hw)
      obtain ⟨xs, vs, m, e1, e2, e3, h⟩ := r.list h
      exact inInts_list r h e2 e3
    | _ => exact h
  | _ => exact h

theorem same_ok {C : Cx} {n : Bool} {v w : Value} {R : Frz} {s : Shared} {st : St} {b : Bool} {Q : Bool → Bool → St → Prop} {c : Bool} (r : Rel C R st s) (e : isSame v w = pure b) (h : neg n Q c b st) :
    wpAny C.M C.A (compareOp (isOp n) v w) (XP C R Q) NoE s := by
  induction n
  · refine (?_ : wpAny _ _ (do return Value.bool (← isSame v w)) _ _ _)
    refine rg e ?_
    exact wpAny_bind (wpAny_pure (wpAny_pure ⟨R, .rfl, _, _, st, rfl, r, h⟩))
  · refine (?_ : wpAny _ _ (do return Value.bool (!(← isSame v w))) _ _ _)
    refine rg e ?_
    exact wpAny_bind (wpAny_pure (wpAny_pure ⟨R, .rfl, _, _, st, rfl, r, h⟩))
theorem isS_ok {C : Cx} (ok : C.Ok) {n : Bool} {a b : SV} {st : St} {Q : Bool → Bool → St → Prop} (h : isS C n a b st Q) : T2 C (isOp n) a b st Q := by
  cases b with
  | none =>
    induction a using SV.casesOn <;> first | (intro R s v w r hv hw; (first | obtain ⟨_, rfl⟩ := VR.str' hw | obtain ⟨_, rfl⟩ := VR.int' hw | obtain rfl := VR.ref' hw | obtain rfl := VR.con' hw | obtain ⟨_, rfl, _⟩ := VR.bm' hw | obtain ⟨rfl, _⟩ := VR.fz' hw | obtain rfl := VR.bool' hw | obtain rfl := VR.none' hw | cases hw); (first | obtain ⟨_, rfl⟩ := VR.str' hv | obtain ⟨_, rfl⟩ := VR.int' hv | obtain rfl := VR.ref' hv | obtain rfl := VR.con' hv | obtain ⟨_, rfl, _⟩ := VR.bm' hv | obtain ⟨rfl, _⟩ := VR.fz' hv | obtain rfl := VR.bool' hv | obtain rfl := VR.none' hv | cases hv); exact same_ok r rfl h) | exact h
  | ref k' y =>
    induction a using SV.casesOn with
    | ref k x =>
      replace h : (match Nat.beq k k' with | true => x = y ∧ neg n Q true true st | false => T2 C (isOp n) (.ref k x) (.ref k' y) st Q) := h
      cases q : Nat.beq k k' with
      | false => replace h := q ▸ h; exact h
      | true =>
        replace h := q ▸ h
        intro R s v w r hv hw; (first | obtain ⟨_, rfl⟩ := VR.str' hv | obtain ⟨_, rfl⟩ := VR.int' hv | obtain rfl := VR.ref' hv | obtain rfl := VR.con' hv | obtain ⟨_, rfl, _⟩ := VR.bm' hv | obtain ⟨rfl, _⟩ := VR.fz' hv | obtain rfl := VR.bool' hv | obtain rfl := VR.none' hv | cases hv); (first | obtain ⟨_, rfl⟩ := VR.str' hw | obtain ⟨_, rfl⟩ := VR.int' hw | obtain rfl := VR.ref' hw | obtain rfl := VR.con' hw | obtain ⟨_, rfl, _⟩ := VR.bm' hw | obtain ⟨rfl, _⟩ := VR.fz' hw | obtain rfl := VR.bool' hw | obtain rfl := VR.none' hw | cases hw)
        obtain ⟨rfl, h⟩ := h
        exact same_ok r (by unfold isSame; simp) h
    | str c x => intro R s v w r hv hw; (first | obtain ⟨_, rfl⟩ := VR.str' hv | obtain ⟨_, rfl⟩ := VR.int' hv | obtain rfl := VR.ref' hv | obtain rfl := VR.con' hv | obtain ⟨_, rfl, _⟩ := VR.bm' hv | obtain ⟨rfl, _⟩ := VR.fz' hv | obtain rfl := VR.bool' hv | obtain rfl := VR.none' hv | cases hv); (first | obtain ⟨_, rfl⟩ := VR.str' hw | obtain ⟨_, rfl⟩ := VR.int' hw | obtain rfl := VR.ref' hw | obtain rfl := VR.con' hw | obtain ⟨_, rfl, _⟩ := VR.bm' hw | obtain ⟨rfl, _⟩ := VR.fz' hw | obtain rfl := VR.bool' hw | obtain rfl := VR.none' hw | cases hw); exact same_ok r rfl h
    | _ => exact h
  | con w =>
    induction a using SV.casesOn with
    | con v =>
      induction v <;> first | exact h | skip
      induction w <;> first | exact h | skip
      rename_i x y
      intro R s v w r hv hw
      obtain rfl := hv.con'
      obtain rfl := hw.con'
      refine same_ok r ?_ h
      refine (?_ : (pure (Value.type _ == Value.type _) : Sem Bool) = _)
      congr 1
      rw [Bool.eq_iff_iff]; simp
    | _ => exact h
  | _ => exact h

theorem eqOp_ok {C : Cx} {a b : SV} {st : St} {Q : Bool → Bool → St → Prop} (h : eqOp C a b st Q) : T2 C .Eq a b st Q := by
  induction a using SV.casesOn with
  | str c x =>
    induction b using SV.casesOn with
    | str d y => exact T2.strs fun R s t u r => PyProof.Rows.eq_str (XP.now r (by refine rg (beq_str ..) ?_; exact h))
    | none => intro R s v w r hv hw; obtain ⟨_, rfl⟩ := hv.str'; obtain rfl := hw.none'; exact EqNone.eq_str_none (XP.now r h)
    | _ => exact h
  | int c x =>
    induction b using SV.casesOn with
    | int d y => exact T2.ints fun R s t u r => PyProof.Rows.eq_int (XP.now r h)
    | _ => exact h
  | none =>
    induction b using SV.casesOn with
    | none => intro R s v w r hv hw; obtain rfl := hv.none'; obtain rfl := hw.none'; exact EqNone.eq_none_none (XP.now r h)
    | str d y => intro R s v w r hv hw; obtain rfl := hv.none'; obtain ⟨_, rfl⟩ := hw.str'; exact EqNone.eq_none_str (XP.now r h)
    | _ => exact h
  | _ => exact h
theorem neOp_ok {C : Cx} {a b : SV} {st : St} {Q : Bool → Bool → St → Prop} (h : neOp C a b st Q) : T2 C .NotEq a b st Q := by
  induction a using SV.casesOn with
  | str c x =>
    induction b using SV.casesOn with
    | str d y => exact T2.strs fun R s t u r => PyProof.Rows.ne_str (XP.now r (by unfold bne; refine rg (beq_str ..) ?_; exact h))
    | none => intro R s v w r hv hw; obtain ⟨_, rfl⟩ := hv.str'; obtain rfl := hw.none'; exact EqNone.ne_str_none (XP.now r h)
    | _ => exact h
  | int c x =>
    induction b using SV.casesOn with
    | int d y => exact T2.ints fun R s t u r => PyProof.Rows.ne_int (XP.now r h)
    | _ => exact h
  | none =>
    induction b using SV.casesOn with
    | none => intro R s v w r hv hw; obtain rfl := hv.none'; obtain rfl := hw.none'; exact EqNone.ne_none_none (XP.now r h)
    | str d y => intro R s v w r hv hw; obtain rfl := hv.none'; obtain ⟨_, rfl⟩ := hw.str'; exact EqNone.ne_none_str (XP.now r h)
    | _ => exact h
  | _ => exact h
theorem ltOp_ok {C : Cx} {a b : SV} {st : St} {Q : Bool → Bool → St → Prop} (h : ltOp C a b st Q) : T2 C .Lt a b st Q := by
  induction a using SV.casesOn with
  | int c x =>
    induction b using SV.casesOn with
    | int d y => exact T2.ints fun R s t u r => PyProof.Rows.lt_int (XP.now r h)
    | _ => exact h
  | _ => exact h
theorem gtOp_ok {C : Cx} {a b : SV} {st : St} {Q : Bool → Bool → St → Prop} (h : gtOp C a b st Q) : T2 C .Gt a b st Q := by
  induction a using SV.casesOn with
  | int c x =>
    induction b using SV.casesOn with
    | int d y => exact T2.ints fun R s t u r => PyProof.Rows.gt_int (XP.now r h)
    | _ => exact h
  | _ => exact h
theorem leOp_ok {C : Cx} {a b : SV} {st : St} {Q : Bool → Bool → St → Prop} (h : leOp C a b st Q) : T2 C .LtE a b st Q := by
  induction a using SV.casesOn with
  | int c x =>
    induction b using SV.casesOn with
    | int d y => exact T2.ints fun R s t u r => PyProof.Rows.le_int (XP.now r h)
    | _ => exact h
  | _ => exact h
theorem geOp_ok {C : Cx} {a b : SV} {st : St} {Q : Bool → Bool → St → Prop} (h : geOp C a b st Q) : T2 C .GtE a b st Q := by
  induction a using SV.casesOn with
  | int c x =>
    induction b using SV.casesOn with
    | int d y => exact T2.ints fun R s t u r => PyProof.Rows.ge_int (XP.now r h)
    | _ => exact h
  | _ => exact h
theorem cmpS_ok {C : Cx} (ok : C.Ok) {op : CmpOp} {a b : SV} {st : St} {Q : Bool → Bool → St → Prop} (h : cmpS C op a b st Q) : T2 C op a b st Q := by
  induction op with
  | Eq => exact eqOp_ok h
  | NotEq => exact neOp_ok h
  | Lt => exact ltOp_ok h
  | Gt => exact gtOp_ok h
  | LtE => exact leOp_ok h
  | GtE => exact geOp_ok h
  | In => exact inS_ok ok (n := false) h
  | NotIn => exact inS_ok ok (n := true) h
  | Is => exact isS_ok ok (n := false) h
  | IsNot => exact isS_ok ok (n := true) h
end Mine
end
end

section
open PySem PySem.W PySem.Calls PyProof.Rows
noncomputable section
set_option Elab.async false
set_option maxRecDepth 100000
set_option autoImplicit false
set_option linter.unusedVariables false
set_option linter.unusedVariables false
namespace Mine

/-! sequencing -/
section
variable {C : Cx} {st : St}
theorem Ev.bin {l r : Expr} {op : Operator} {pos : Pos} {Q : SV → St → Prop} (h : Ev C (eval l C.env) st fun a st₁ => Ev C (eval r C.env) st₁ fun b st₂ => E2 C (binaryOp op) a b st₂ Q) :
    Ev C (eval (.BinOp l op r pos) C.env) st Q := fun R s rr => by
  refine wpAny_BinOp (wpAny_mono (h R s rr) ?_ fun _ _ e => e)
  rintro v s1 ⟨R1, g1, a, st1, r1, hv, h1⟩
  refine wpAny_mono (h1 R1 s1 r1) ?_ fun _ _ e => e
  rintro w s2 ⟨R2, g2, b, st2, r2, hw, h2⟩
  exact wpAny_mono (h2 R2 s2 v w r2 (hv.grows g2) hw) (fun _ _ q => q.grows (g1.trans g2)) fun _ _ e => e
theorem Ev.cmp {l r : Expr} {op : CmpOp} {pos : Pos} {Q : SV → St → Prop} (hm : behindInMarks op r = false) (h : Ev C (eval l C.env) st fun a st₁ => Ev C (eval r C.env) st₁ fun b st₂ => T2 C op a b st₂ fun c b st => Q (.bool c b) st) :
    Ev C (eval (.Compare l [op] [r] pos) C.env) st Q := fun R s rr => by
  refine wpAny_Compare1 (wpAny_mono (h R s rr) ?_ fun _ _ e => e) hm
  rintro v s1 ⟨R1, g1, a, st1, r1, hv, h1⟩
  refine wpAny_mono (h1 R1 s1 r1) ?_ fun _ _ e => e
  rintro w s2 ⟨R2, g2, b, st2, r2, hw, h2⟩
  refine wpAny_mono (h2 R2 s2 v w r2 (hv.grows g2) hw) ?_ fun _ _ e => e
  rintro x s3 ⟨R3, g3, c, b, st3, rfl, r3, h3⟩
  exact ⟨R3, g1.trans (g2.trans g3), _, st3, r3, .bool, h3⟩
theorem Et.cmp {l r : Expr} {op : CmpOp} {pos : Pos} {whole : Sem Value} {Q : Bool → St → Prop} (hm : behindInMarks op r = false) (h : Ev C (eval l C.env) st fun a st₁ => Ev C (eval r C.env) st₁ fun b st₂ => T2 C op a b st₂ fun c b st => branch c b (Q true st) (Q false st)) :
    Et C (isTrue (.Compare l [op] [r] pos) C.env whole) st Q := fun R s rr => by
  refine wpAny_isTrue_Compare1 (wpAny_mono (h R s rr) ?_ fun _ _ e => e) hm
  rintro v s1 ⟨R1, g1, a, st1, r1, hv, h1⟩
  refine wpAny_mono (h1 R1 s1 r1) ?_ fun _ _ e => e
  rintro w s2 ⟨R2, g2, b, st2, r2, hw, h2⟩
  refine wpAny_mono (h2 R2 s2 v w r2 (hv.grows g2) hw) ?_ fun _ _ e => e
  rintro x s3 ⟨R3, g3, c, b, st3, rfl, r3, h3⟩
  refine wpAny_truthy_bool ⟨R3, g1.trans (g2.trans g3), st3, r3, ?_⟩
  have := branch_ok h3
  induction b <;> exact this
theorem Et.plain {e : Expr} {Q : Bool → St → Prop} (he : isTrue e C.env (eval e C.env) = (do let v ← eval e C.env; standAt e.pos; holding [v] (truthy v)))
    (h : Ev C (eval e C.env) st fun a st₁ => T1 C a st₁ fun c b st => branch c b (Q true st) (Q false st)) : Et C (isTrue e C.env (eval e C.env)) st Q := fun R s rr => by
  refine isTrue_plain (wpAny_mono (h R s rr) ?_ fun _ _ e => e) he
  rintro v s1 ⟨R1, g1, a, st1, r1, hv, h1⟩
  refine wpAny_mono (h1 R1 s1 v r1 hv) ?_ fun _ _ e => e
  rintro b s3 ⟨R3, g3, c, st3, r3, h3⟩
  refine ⟨R3, g1.trans g3, st3, r3, ?_⟩
  have := branch_ok h3
  induction b <;> exact this
theorem Et.not {x : Expr} {pos : Pos} {whole : Sem Value} {Q : Bool → St → Prop} (h : Et C (isTrue x C.env (eval x C.env)) st fun b st => Q (!b) st) : Et C (isTrue (.UnaryOp .Not x pos) C.env whole) st Q :=
  fun R s rr => isTrue_not (wpAny_mono (h R s rr) (fun _ _ ⟨R1, g1, st1, r1, q⟩ => ⟨R1, g1, st1, r1, q⟩) fun _ _ e => e)
theorem Et.seq {t : Sem Bool} {P : Bool → St → Prop} {α : Type} {K : Bool → Sem α} {W : α → Shared → Prop} (h : Et C t st P) {R : Frz} {s : Shared} (rr : Rel C R st s)
    (hk : ∀ b st₁ R₁ s₁, Grows R R₁ → Rel C R₁ st₁ s₁ → P b st₁ → wpAny C.M C.A (K b) W NoE s₁) : wpAny C.M C.A t (fun b s₁ => wpAny C.M C.A (K b) W NoE s₁) NoE s :=
  wpAny_mono (h R s rr) (fun b s₁ ⟨R₁, g, st₁, r₁, p⟩ => hk b st₁ R₁ s₁ g r₁ p) fun _ _ e => e
theorem Et.and {x : Expr} {rest : List Expr} {pos : Pos} {whole : Sem Value} {Q : Bool → St → Prop} (h : Et C (isTrue x C.env (eval x C.env)) st fun b st₁ => match b with
      | true => Et C (isTrue (.BoolOp .And rest pos) C.env whole) st₁ Q
      | false => Q false st₁) : Et C (isTrue (.BoolOp .And (x :: rest) pos) C.env whole) st Q := fun R s rr => by
  refine isTrue_and (wpAny_mono (h R s rr) ?_ fun _ _ e => e)
  rintro b s1 ⟨R1, g1, st1, r1, h1⟩
  induction b
  · exact ⟨R1, g1, st1, r1, h1⟩
  · exact wpAny_mono (h1 R1 s1 r1) (fun _ _ q => q.grows g1) fun _ _ e => e
theorem Et.or {x : Expr} {rest : List Expr} {pos : Pos} {whole : Sem Value} {Q : Bool → St → Prop} (h : Et C (isTrue x C.env (eval x C.env)) st fun b st₁ => match b with
      | false => Et C (isTrue (.BoolOp .Or rest pos) C.env whole) st₁ Q
      | true => Q true st₁) : Et C (isTrue (.BoolOp .Or (x :: rest) pos) C.env whole) st Q := fun R s rr => by
  refine isTrue_or (wpAny_mono (h R s rr) ?_ fun _ _ e => e)
  rintro b s1 ⟨R1, g1, st1, r1, h1⟩
  induction b
  · exact wpAny_mono (h1 R1 s1 r1) (fun _ _ q => q.grows g1) fun _ _ e => e
  · exact ⟨R1, g1, st1, r1, h1⟩
theorem Ev.ifexp {t b o : Expr} {pos : Pos} {Q : SV → St → Prop} (h : Et C (isTrue t C.env (eval t C.env)) st fun c st₁ => match c with
      | true => Ev C (eval b C.env) st₁ Q
      | false => Ev C (eval o C.env) st₁ Q) : Ev C (eval (.IfExp t b o pos) C.env) st Q := fun R s rr => by
  refine IfExp_ (wpAny_mono (h R s rr) ?_ fun _ _ e => e)
  rintro c s1 ⟨R1, g1, st1, r1, h1⟩
  induction c
  · exact wpAny_mono (h1 R1 s1 r1) (fun _ _ q => q.grows g1) fun _ _ e => e
  · exact wpAny_mono (h1 R1 s1 r1) (fun _ _ q => q.grows g1) fun _ _ e => e
theorem Ev.not {x : Expr} {pos : Pos} {Q : SV → St → Prop} (h : Ev C (eval x C.env) st fun a st₁ => T1 C a st₁ fun c b st => Q (.bool c (!b)) st) : Ev C (eval (.UnaryOp .Not x pos) C.env) st Q := fun R s rr => by
  refine UnaryOp_ (wpAny_mono (h R s rr) ?_ fun _ _ e => e)
  rintro v s1 ⟨R1, g1, a, st1, r1, hv, h1⟩
  refine not_of (wpAny_mono (h1 R1 s1 v r1 hv) ?_ fun _ _ e => e)
  rintro b s3 ⟨R3, g3, c, st3, r3, h3⟩
  exact ⟨R3, g1.trans g3, _, st3, r3, .bool, h3⟩

/-! several -/
noncomputable def Els (C : Cx) (t : Sem (List Value)) (st : St) (Q : List SV → St → Prop) : Prop := ∀ R s, Rel C R st s → wpAny C.M C.A t (LP C R Q) NoE s
noncomputable def kindE : Expr → Nat
  | .Starred .. => 1
  | .Slice .. => 2
  | .Call .. => 3
  | .Name .. => 4
  | .ListComp .. | .SetComp .. | .DictComp .. => 5
  | _ => 0
noncomputable def notStar (e : Expr) : Bool := !(Nat.beq (kindE e) 1)
noncomputable def isSlice (e : Expr) : Bool := Nat.beq (kindE e) 2
theorem starEach_cons {e : Expr} {rest : List Expr} {env : Env} (h : notStar e = true) : starEach (e :: rest) env = (false, eval e env) :: starEach rest env := by
  induction e using Expr.casesOn <;> first | rfl | exact ftE h
theorem Els.nil {pos : Pos} {Q : List SV → St → Prop} (h : Q [] st) : Els C (spliced (backTo pos (starEach [] C.env))) st Q := fun R s rr => args_nil ⟨R, .rfl, [], st, rr, .nil, h⟩
theorem Els.cons {e : Expr} {rest : List Expr} {pos : Pos} {Q : List SV → St → Prop} (hs : notStar e = true) (h : Ev C (eval e C.env) st fun a st₁ => Els C (spliced (backTo pos (starEach rest C.env))) st₁ fun xs st₂ => Q (a :: xs) st₂) :
    Els C (spliced (backTo pos (starEach (e :: rest) C.env))) st Q := fun R s rr => by
  refine args_cons (wpAny_mono (h R s rr) ?_ fun _ _ e => e) (starEach_cons hs)
  rintro v s1 ⟨R1, g1, a, st1, r1, hv, h1⟩
  refine wpAny_mono (h1 R1 s1 r1) ?_ fun _ _ e => e
  rintro ws s2 ⟨R2, g2, xs, st2, r2, hw, h2⟩
  exact ⟨R2, g1.trans g2, _, st2, r2, .cons (hv.grows g2) hw, h2⟩
theorem Ev.tuple (ok : C.Ok) {elts : List Expr} {k : Nat} {pos : Pos} {Q : SV → St → Prop} (h : Els C (spliced (backTo pos (starEach elts C.env))) st fun xs st => xs.length ≤ szB ∧ Q (.seq true xs) st) : Ev C (eval (.Tuple elts k pos) C.env) st Q := fun R s rr => by
  refine Tuple_ (wpAny_mono (h R s rr) ?_ fun _ _ e => e)
  rintro vs s1 ⟨R1, g1, xs, st1, r1, hv, h0, h1⟩
  obtain ⟨m, F, hl⟩ := r1.fr
  refine newTuple_N F allNews_ok (fun h' F' N' => ?_) (hv.len ▸ Nat.le_trans h0 szB_line)
  have r2 : Rel C R1 st1 { s1 with heap := h' } := r1.frn (extra := [_]) F hl F' N'
  have g2 : Grows R1 (fun b x => R1 b x ∨ (b = s1.heap.objs.size ∧ x = { cls := .type "tuple", data := .seq vs.toArray })) := fun _ _ h => Or.inl h
  exact ⟨_, g1.trans g2, _, st1, r1.freeze ok r2 (Nat.le_refl _) (N' _ (.head _)).1, .seq (n := 0) (.inr ⟨rfl, rfl⟩) rfl rfl hv.len (hv.grows g2).at_, h1⟩
theorem Ev.list {elts : List Expr} {pos : Pos} {Q : SV → St → Prop} (h : Els C (spliced (backTo pos (starEach elts C.env))) st fun xs st => xs.length ≤ szB ∧ ∀ a, newL st xs Q a) : Ev C (eval (.List elts pos) C.env) st Q := fun R s rr => by
  refine List_ (wpAny_mono (h R s rr) ?_ fun _ _ e => e)
  rintro vs s1 ⟨R1, g1, xs, st1, r1, hv, h0, h1⟩
  obtain ⟨m, F, hl⟩ := r1.fr
  refine newList_N F allNews_ok (fun h' F' N' => ?_) (hv.len ▸ Nat.le_trans h0 szB_line)
  have r2 : Rel C R1 st1 { s1 with heap := h' } := r1.frn (extra := [_]) F hl F' N'
  exact ⟨R1, g1, _, _, r1.add r2 (Nat.le_refl _) (N' _ (.head _)).1 (.list (n := 0) hv), .ref, h1 _⟩

/-! calls -/
noncomputable def Cl (C : Cx) (f : SV) (args : List SV) (kw : List (Str × SV)) (st : St) (Q : SV → St → Prop) : Prop :=
  ∀ R s v ws ks, Rel C R st s → VR R f v → VRs R args ws → VRs R (kw.map (·.2)) ks →
    wpAny C.M C.A (call v ws ((kw.map (·.1)).zip ks)) (VP C R Q) NoE s
noncomputable def kept (C : Cx) : SV → Bool
  | .con (.builtin _) => true
  | .con (.type _) => true
  | .con (.ref a) => keepIn C.K (.ref a)
  | .bm .. => true
  | _ => false
theorem kept_ok (ok : C.Ok) {R : Frz} {s : Shared} {f : SV} {v : Value} {M : Model} (r : Rel C R st s) (h : VR R f v) (hk : kept C f = true) : ∃ k, (k = Keeper.frame ∨ k = Keeper.machine ∨ k = Keeper.boundFrame) ∧ Looks M s.heap (keeperOf v) k := by
  cases h with
  | con =>
    induction v using Value.casesOn with
    | builtin id => exact ⟨.machine, .inr (.inl rfl), .now⟩
    | type id => exact ⟨.machine, .inr (.inl rfl), .now⟩
    | ref a =>
      obtain ⟨m, F, _⟩ := r.fr
      exact keeps_K (K := C.K) (f := .ref a) hk _ (ok.X.keeps F.keep)
    | _ => exact ftE hk
  | bm h => exact ⟨.machine, .inr (.inl rfl), (Looks.ld (part := none) (r.frz _ _ h).1).andThen .now⟩
  | _ => exact ftE hk

theorem Cl.callWith (ok : C.Ok) {f : SV} {first : List SV} {args : List Expr} {pos : Pos} {Q : SV → St → Prop} (hn : args.all notStar = true)
    (h : Els C (spliced (backTo pos (starEach args C.env))) st fun xs st₁ => kept C f = true ∧ Cl C f (first ++ xs) [] st₁ Q) :
    ∀ R s v ws, Rel C R st s → VR R f v → VRs R first ws → wpAny C.M C.A (callWith pos v ws (backTo pos (starEach args C.env)) []) (VP C R Q) NoE s := by
  intro R s v ws rr hf hw
  have hp : (backTo pos (starEach args C.env)).any (·.1) = false := by
    clear h
    induction args with
    | nil => rfl
    | cons e t ih =>
      obtain ⟨h1, h2⟩ := Bool.and_eq_true_iff.mp hn
      refine rg (starEach_cons h1) ?_
      refine (?_ : (false || _) = false)
      exact ih h2
  have h' : wpAny C.M C.A (spliced (backTo pos (starEach args C.env))) (fun vs s₁ => (∃ k, (k = Keeper.frame ∨ k = Keeper.machine ∨ k = Keeper.boundFrame) ∧ Looks C.M s₁.heap (keeperOf v) k) ∧
      wpAny C.M C.A (call v (ws ++ vs)) (VP C R Q) NoE s₁) NoE s := by
    refine wpAny_mono (h R s rr) ?_ fun _ _ e => e
    rintro vs s1 ⟨R1, g1, xs, st1, r1, hv, h0, h1⟩
    refine ⟨kept_ok ok r1 (hf.grows g1) h0, wpAny_mono (h1 R1 s1 v (ws ++ vs) [] r1 (hf.grows g1) ((hw.grows g1).append hv) .nil) (fun _ _ q => q.grows g1) fun _ _ e => e⟩
  refine callWith_of (P := fun h => ∃ k, (k = Keeper.frame ∨ k = Keeper.machine ∨ k = Keeper.boundFrame) ∧ Looks C.M h (keeperOf v) k) (by refine rg hp ?_; rfl) (fun h p => p) ?_
  induction args with
  | nil =>
    intro Γ p hΓ
    have h2 := h' Γ p hΓ
    exact PyProof.Rows.evalArgs_none (s := s) (Q := fun a s₁ => (∃ k, (k = Keeper.frame ∨ k = Keeper.machine ∨ k = Keeper.boundFrame) ∧ Looks C.M s₁.heap (keeperOf v) k) ∧
      wpAny C.M C.A (call v (ws ++ a.pos) a.kw) (VP C R Q) NoE s₁) h2 Γ p hΓ
  | cons e t =>
    obtain ⟨h1, h2⟩ := Bool.and_eq_true_iff.mp hn
    have e1 : backTo pos (starEach (e :: t) C.env) = (false, eval e C.env) :: backTo pos (starEach t C.env) := by refine rg (starEach_cons h1) ?_; rfl
    rw [e1] at h' ⊢
    exact evalArgs_plain h'
end
end Mine
end
end

section
open PySem PySem.W PySem.Calls PyProof.Rows
noncomputable section
set_option Elab.async false
set_option maxRecDepth 100000
set_option autoImplicit false
set_option linter.unusedVariables false
set_option linter.unusedVariables false
namespace Mine

/-! item of -/
noncomputable def itemAt (xs : List SV) (i : Int) (x : SV) : Prop :=
  (0 ≤ i ∧ i < szB ∧ xs[i.toNat]? = some x) ∨ (i < 0 ∧ -(xs.length : Int) ≤ i ∧ xs.length ≤ szB ∧ xs[(i + xs.length).toNat]? = some x)
noncomputable def subS (C : Cx) (a b : SV) (st : St) (Q : SV → St → Prop) : Prop :=
  match a with
  | .str c x => match b with
    | .int d i => ∃ ch, 0 ≤ i ∧ i < szB ∧ x[i.toNat]? = some ch ∧ Q (.str false [ch]) st
    | _ => False
  | .ref k l => match b with
    | .int d i => withList st k l fun xs => ∃ x, itemAt xs i x ∧ Q x st
    | _ => False
  | _ => False
theorem str_at {x : List Nat} {i : Int} {ch : Nat} (h0 : 0 ≤ i) (h : x[i.toNat]? = some ch) : (seqIndex? i (⟨x.toArray⟩ : Str).length).bind ((⟨x.toArray⟩ : Str).cps[·]?) = some ch := by
  refine rg (str_len ..) ?_
  have hlt : i.toNat < x.length := (List.getElem?_eq_some_iff.mp h).1
  have e : seqIndex? i x.length = some i.toNat := by
    unfold seqIndex?
    have e1 : ¬ i < 0 := by lia
    simp only [if_neg e1]
    rw [if_pos]
    simp only [Bool.and_eq_true, decide_eq_true_eq]
    lia
  refine rg e ?_
  simpa using h
theorem ltg_str (value : Expr) {x : Str} {t : Tok} (r : Value) : letTemporaryGo value (.str x t) r = pure () := by induction value using Expr.casesOn <;> rfl
theorem subS_ok {C : Cx} {R : Frz} {s : Shared} {st : St} {value slice : Expr} {a b : SV} {v w : Value} {Q : SV → St → Prop} (hs : ∀ o i, subscripted slice false o i = operate [o, i] (getItem o i)) (r : Rel C R st s) (hv : VR R a v) (hw : VR R b w) (h2 : subS C a b st Q) :
    wpAny C.M C.A (subscriptTail value slice v w) (VP C R Q) NoE s := by
  induction a using SV.casesOn with
  | str c x =>
    induction b using SV.casesOn with
    | int d i =>
      obtain ⟨_, rfl⟩ := hv.str'
      obtain ⟨_, rfl⟩ := hw.int'
      obtain ⟨ch, h0, hb, hc, hq⟩ := h2
      refine subscriptTail_builtin (typeIs_str s _ _) slot_str_getitem.lookup (getItem_str (by unfold szB at hb; simp; lia) (str_at h0 hc) ?_) (hs _ _) (ltg_str value)
      exact ⟨R, .rfl, _, st, r.toks _, .str (s := [ch]), hq⟩
    | _ => exact h2.elim
  | ref k l =>
    induction b using SV.casesOn with
    | int d i =>
      obtain rfl := hv.ref'
      obtain ⟨_, rfl⟩ := hw.int'
      obtain ⟨xs, vs, n, e1, e2, e3, x, hx, hq⟩ := r.list h2
      unfold subscriptTail
      have hl := isList_of e3
      refine wpAny_bind ?_
      refine rg (getitemInPython_of_ne hl.typeIs.not_modules) ?_
      refine wpAny_bind (wpAny_specialOf hl.typeIs slot_list_getitem.lookup (wpAny_pure (wpAny_bind ?_)))
      refine (?_ : wpAny _ _ (subscripted slice false _ _) _ _ _)
      refine rg (hs ..) ?_
      refine wpAny_operating ?_
      have fin : ∀ o y, VR R x y → wpAny C.M C.A (letTemporaryGo value o y >>= fun _ => pure y) (VP C R Q) NoE s :=
        fun o y hy => wpAny_bind (wpAny_letTemporaryGo (wpAny_pure ⟨R, .rfl, x, st, r, hy, hq⟩))
      have hlen := e2.len
      rcases hx with ⟨h0, hb, hc⟩ | ⟨h0, hb, hz, hc⟩
      · obtain ⟨y, hy, hr⟩ := e2.get hc
        exact wpAny_getItem_list hl h0 (by unfold szB at hb; lia) (by simpa using hy) (fin _ y hr)
      · obtain ⟨y, hy, hr⟩ := e2.get hc
        exact wpAny_getItem_list_neg hl h0 (by simp only [List.size_toArray]; lia) (by unfold szB at hz; lia) (by simp only [List.size_toArray, List.getElem?_toArray]; refine rl hlen ?_; exact hy) (fin _ y hr)
    | _ => exact h2.elim
  | _ => exact h2.elim
theorem Ev.sub {C : Cx} {st : St} {value slice : Expr} {pos : Pos} {Q : SV → St → Prop} (hn : isSlice slice = false)
    (h : Ev C (eval value C.env) st fun a st₁ => Ev C (eval slice C.env) st₁ fun b st₂ => subS C a b st₂ Q) : Ev C (eval (.Subscript value slice pos) C.env) st Q := fun R s rr => by
  refine Subscript_ (wpAny_mono (h R s rr) ?_ fun _ _ e => e)
  rintro v s1 ⟨R1, g1, a, st1, r1, hv, h1⟩
  refine wpAny_mono (h1 R1 s1 r1) ?_ fun _ _ e => e
  rintro w s2 ⟨R2, g2, b, st2, r2, hw, h2⟩
  have hs : ∀ o i, subscripted slice false o i = operate [o, i] (getItem o i) := fun o i => by
    induction slice using Expr.casesOn <;> first | rfl | exact tfE hn
  refine wpAny_mono (subS_ok hs r2 (hv.grows g2) hw h2) (fun _ _ q => q.grows (g1.trans g2)) fun _ _ e => e

/-! stores -/
noncomputable def stS (C : Cx) (x : Str) (v : SV) (st : St) (Q : St → Prop) : Prop :=
  match lk C.scope.names x with
  | some .local => Q { st with loc := setL st.loc x v }
  | _ => False
theorem store_ok {C : Cx} (ok : C.Ok) {x : Str} {v : SV} {val : Value} {st : St} {Q : St → Prop} {R : Frz} {s : Shared} (r : Rel C R st s) (hv : VR R v val) (h : stS C x v st Q) :
    wpAny C.M C.A (storeName C.env x val) (fun _ s' => ∃ st', Rel C R st' s' ∧ Q st') NoE s := by
  unfold stS at h
  split at h
  · rename_i e
    obtain ⟨m, F, hl⟩ := r.fr
    refine wpAny_storeName_local ((lk_lookup x _).trans e) F.ns (fun h' hn hs => ⟨_, r.store (s' := { s with heap := h', toks := s.toks + 1 }) hv F hl hn hs rfl rfl, h⟩) ?_
    refine (?_ : (C.scope.kind == .class || (C.scope.kind == .module && C.L != mainGlobals)) = false)
    refine rg ok.hk ?_; rfl
  · exact h.elim

noncomputable def noSwap (e : Expr) : Bool := !(Nat.beq (kindE e) 5)
theorem noSwap_ok {e : Expr} (h : noSwap e = true) (t : Option Expr) (l : Nat) (env : Env) : swapsWith e t l env = pure false := by
  induction e using Expr.casesOn <;> first | rfl | exact ftE h

noncomputable def iaddS (C : Cx) (a b : SV) (st : St) (Q : SV → St → Prop) : Prop :=
  match a with
  | .str c x => match b with
    | .str d y => small (c && d) (x.length + y.length) (Q (.str (c && d) (x ++ y)) st)
    | b => E2 C (inplaceOp .Add) (.str c x) b st Q
  | .int c x => match b with
    | .int d y => Q (.int (c && d) (x + y)) st
    | b => E2 C (inplaceOp .Add) (.int c x) b st Q
  | a => E2 C (inplaceOp .Add) a b st Q
theorem iaddS_ok {C : Cx} {a b : SV} {st : St} {Q : SV → St → Prop} (h : iaddS C a b st Q) : E2 C (inplaceOp .Add) a b st Q := by
  induction a using SV.casesOn with
  | str c x =>
    induction b using SV.casesOn with
    | str d y =>
      obtain ⟨h1, h2⟩ := small_ok h
      refine E2.strs fun R s t u r => iadd_str (fun t' tk => ?_) (by refine rg (str_len ..) (rg (str_len ..) ?_); exact Nat.le_trans h1 szB_line)
      refine rg (str_append ..) ?_
      exact ⟨R, .rfl, _, st, r.toks _, .str, h2⟩
    | _ => exact h
  | int c x =>
    induction b using SV.casesOn with
    | int d y => exact E2.ints fun R s t u r => iadd_int ⟨R, .rfl, _, st, r.toks _, .int, h⟩
    | _ => exact h
  | _ => exact h
noncomputable def inplS (C : Cx) (op : Operator) (a b : SV) (st : St) (Q : SV → St → Prop) : Prop :=
  match op with
  | .Add => iaddS C a b st Q
  | op => E2 C (inplaceOp op) a b st Q
theorem inplS_ok {C : Cx} (ok : C.Ok) {op : Operator} {a b : SV} {st : St} {Q : SV → St → Prop} (h : inplS C op a b st Q) : E2 C (inplaceOp op) a b st Q := by
  induction op with
  | Add => exact iaddS_ok h
  | _ => exact h

/-! methods -/
noncomputable def Me (C : Cx) (o : SV) (name : Str) (st : St) (Q : SV → List SV → St → Prop) : Prop :=
  ∀ R s v pl, Rel C R st s → VR R o v → wpAny C.M C.A (getMethod v name pl) (MP C R Q) NoE s
noncomputable def notSuper (e : Expr) : Bool := !(Nat.beq (kindE e) 3)
theorem backTo_all (args : List Expr) (pos : Pos) (env : Env) (hn : args.all notStar = true) : (backTo pos (starEach args env)).all (fun x => !x.1) = true := by
  induction args with
  | nil => rfl
  | cons e t ih =>
    obtain ⟨h1, h2⟩ := Bool.and_eq_true_iff.mp hn
    refine rg (starEach_cons h1) ?_
    refine (?_ : (true && _) = true)
    exact ih h2
theorem Ev.meth {C : Cx} (ok : C.Ok) {st : St} {o : Expr} {name : Str} {apos pos : Pos} {args : List Expr} {Q : SV → St → Prop} (hn : args.all notStar = true) (ho : notSuper o = true) (hl : Nat.ble args.length 20 = true) (hp : Nat.beq apos.endLine pos.line = true)
    (h : Ev C (eval o C.env) st fun a st₁ => Me C a name st₁ fun f first st₂ => Els C (spliced (backTo pos (starEach args C.env))) st₂ fun xs st₃ => kept C f = true ∧ Cl C f (first ++ xs) [] st₃ Q) :
    Ev C (eval (.Call (.Attribute o name apos) args [] pos) C.env) st Q := fun R s rr => by
  refine rg (arm_eval_Call ..) ?_
  have hb : attributeBase o name C.env (eval o C.env) = eval o C.env := by induction o using Expr.casesOn <;> first | rfl | (first | obtain ⟨_, rfl⟩ := VR.str' ho | obtain ⟨_, rfl⟩ := VR.int' ho | obtain rfl := VR.ref' ho | obtain rfl := VR.con' ho | obtain ⟨_, rfl, _⟩ := VR.bm' ho | obtain ⟨rfl, _⟩ := VR.fz' ho | obtain rfl := VR.bool' ho | obtain rfl := VR.none' ho | exact ftE ho)
  refine rg hb ?_
  refine wpAny_bind (wpAny_mono (h R s rr) ?_ fun _ _ e => e)
  rintro v s1 ⟨R1, g1, a, st1, r1, hv, h1⟩
  refine wpAny_bind (wpAny_standAt ?_)
  unfold methodCall
  have hlen : args.length ≤ 20 := Nat.le_of_ble_eq_true hl
  have hform : methodCallForm (args.length + ([] : List Keyword).length) (backTo pos (starEach args C.env)) (backToKw pos (keywordEach [] C.env)) = true := by
    unfold methodCallForm
    refine rg (backTo_all args pos C.env hn) ?_
    refine (?_ : (true && true && decide (args.length + 0 + 0 < 30)) = true)
    exact decide_eq_true (Nat.lt_of_le_of_lt hlen (by decide))
  refine rg hform ?_
  refine wpAny_bind (wpAny_holding (wpAny_mono (h1 R1 s1 v _ r1 hv) ?_ fun _ _ e => e))
  rintro ⟨f, first⟩ s2 ⟨R2, g2, sf, fs, st2, r2, hf, hfs, h2⟩
  have hpos : methodCallPos true o C.env apos pos = pure pos := by
    unfold methodCallPos
    have := Nat.eq_of_beq_eq_true hp
    simp [this]
  refine rg hpos ?_
  refine wpAny_bind (wpAny_pure ?_)
  refine wpAny_mono (Cl.callWith ok hn h2 R2 s2 f first r2 hf hfs) (fun _ _ q => q.grows (g1.trans g2)) fun _ _ e => e
noncomputable def plainFn (e : Expr) : Bool := Nat.beq (kindE e) 4

/-! slices -/
noncomputable def slStr (x : List Nat) (i j : Option Int) (st : St) (Q : SV → St → Prop) : Prop := ∃ y : List Nat, PySem.Txt.slice ⟨x.toArray⟩ i j = ⟨y.toArray⟩ ∧ x.length ≤ szB ∧ Q (.str false y) st
noncomputable def slS (C : Cx) (value : Expr) (a l u : SV) (st : St) (Q : SV → St → Prop) : Prop :=
  match a with
  | .str c x => match l with
    | .int _ i => match u with
      | .int _ j => slStr x (some i) (some j) st Q
      | .none => slStr x (some i) none st Q
      | _ => False
    | .none => match u with
      | .int _ j => slStr x none (some j) st Q
      | _ => False
    | _ => False
  | .ref k b => match l with
    | .none => match u with
      | .int _ j => withList st k b fun xs => plainFn value = true ∧ 0 ≤ j ∧ xs.length ≤ szB ∧ ∀ a, newL st (xs.take j.toNat) Q a
      | _ => False
    | _ => False
  | _ => False
theorem ltg_fn {value : Expr} (hp : plainFn value = true) {a : Addr} (r : Value) : letTemporaryGo value (.ref a) r = pure () := by induction value using Expr.casesOn <;> first | rfl | exact ftE hp
/-- the part of a value between two others -/
noncomputable def Sl (C : Cx) (value slice : Expr) (a l u : SV) (st : St) (Q : SV → St → Prop) : Prop :=
  ∀ R s v vl vu, Rel C R st s → VR R a v → VR R l vl → VR R u vu → wpAny C.M C.A (subscriptTail value slice v (.ref s.heap.objs.size)) (VP C R Q) NoE { s with heap := s.heap.push { cls := .type "slice", data := .fields #[vl, vu, .none] } }
theorem slStr_ok {C : Cx} {R : Frz} {x : List Nat} {i j : Option Int} {st : St} {Q : SV → St → Prop} (h : slStr x i j st Q) : x.length ≤ szB ∧ ∀ (s' : Shared) (t : Tok), Rel C R st s' → VP C R Q (.str (Txt.slice ⟨x.toArray⟩ i j) t) s' := by
  obtain ⟨y, hy, hz, hq⟩ := h
  exact ⟨hz, fun s' t r => by refine rg hy ?_; exact ⟨R, .rfl, _, st, r, .str, hq⟩⟩
theorem take_ok {R : Frz} {xs : List SV} {vs : List Value} (h : VRs R xs vs) (n : Nat) : VRs R (xs.take n) (vs.take n) :=
  ⟨by simp [h.len], fun i x v a b => by
    rw [List.getElem?_take] at a b
    split at a
    · rename_i q; replace b := (if_pos q) ▸ b; exact h.at_ i x v a b
    · exact nsE a⟩
/-- the beginning of a list -/
theorem slList {C : Cx} {value slice : Expr} {R : Frz} {s : Shared} {st : St} {b : Addr} {vs : List Value} {n : Nat} {xs : List SV} {j : Int} {tj : Tok} {Q : SV → St → Prop} (r : Rel C R st s) (e3 : s.heap.get? b = some (listO vs n)) (e2 : VRs R xs vs)
    (hs : ∀ o i, subscripted slice false o i = operate [i, o] (getItem o i)) (hp : plainFn value = true) (h0 : 0 ≤ j) (hz : xs.length ≤ szB) (hq : ∀ a, newL st (xs.take j.toNat) Q a) :
    wpAny C.M C.A (subscriptTail value slice (.ref b) (.ref s.heap.objs.size)) (VP C R Q) NoE { s with heap := s.heap.push { cls := .type "slice", data := .fields #[.none, .int j tj, .none] } } := by
  obtain ⟨m, F, hm⟩ := r.fr
  have hlen := e2.len
  refine slice_list (vl := .none) (vu := .int j tj) (lo := none) (hi := some j) F allNews_ok (isList_of e3) .none (.int _ _) (fun h' F' N' => ?_) (hs _ _) (ltg_fn hp) (by simp only [List.size_toArray]; refine rl hlen ?_; exact Nat.le_trans hz szB_line)
  have ej : j = (j.toNat : Int) := (Int.toNat_of_nonneg h0).symm
  rw [ej, slicePick_upto'] at N'
  have r4 : Rel C R st { s with heap := h' } := r.frn (extra := [_]) F hm F' N'
  refine ⟨R, .rfl, _, _, r.add r4 (Nat.le_succ _) (N' _ (.head _)).1 (.list (n := 0) ?_), .ref, hq _⟩
  simpa using take_ok e2 j.toNat
theorem slS_ok {C : Cx} {value slice : Expr} {a l u : SV} {st : St} {Q : SV → St → Prop} (h : slS C value a l u st Q) (hs : ∀ o i, subscripted slice false o i = operate [i, o] (getItem o i)) : Sl C value slice a l u st Q := by
  intro R s v vl vu r hv hl hu
  obtain ⟨m, F, hm⟩ := r.fr
  induction a using SV.casesOn with
  | str c x =>
    obtain ⟨_, rfl⟩ := hv.str'
    induction l using SV.casesOn with
    | int _ i =>
      obtain ⟨_, rfl⟩ := hl.int'
      induction u using SV.casesOn with
      | int _ j =>
        obtain ⟨_, rfl⟩ := hu.int'
        obtain ⟨hz, hq⟩ := slStr_ok (C := C) (R := R) h
        exact slice_strN_ss F allNews_ok (fun h' t' k F' N' => hq _ _ (r.frn (extra := []) F hm F' N')) (hs _ _) (ltg_str value) (by refine rg (str_len ..) ?_; exact Nat.le_trans hz szB_line)
      | none =>
        obtain rfl := hu.none'
        obtain ⟨hz, hq⟩ := slStr_ok (C := C) (R := R) h
        exact slice_strN_sn F allNews_ok (fun h' t' k F' N' => hq _ _ (r.frn (extra := []) F hm F' N')) (hs _ _) (ltg_str value) (by refine rg (str_len ..) ?_; exact Nat.le_trans hz szB_line)
      | _ => exact h.elim
    | none =>
      obtain rfl := hl.none'
      induction u using SV.casesOn with
      | int _ j =>
        obtain ⟨_, rfl⟩ := hu.int'
        obtain ⟨hz, hq⟩ := slStr_ok (C := C) (R := R) h
        exact slice_strN_ns F allNews_ok (fun h' t' k F' N' => hq _ _ (r.frn (extra := []) F hm F' N')) (hs _ _) (ltg_str value) (by refine rg (str_len ..) ?_; exact Nat.le_trans hz szB_line)
      | _ => exact h.elim
    | _ => exact h.elim
  | ref k b =>
    obtain rfl := hv.ref'
    induction l using SV.casesOn with
    | none =>
      obtain rfl := hl.none'
      induction u using SV.casesOn with
      | int _ j =>
        obtain ⟨_, rfl⟩ := hu.int'
        obtain ⟨xs, vs, n, e1, e2, e3, hp, h0, hz, hq⟩ := r.list h
        exact slList r e3 e2 hs hp h0 hz hq
      | _ => exact h.elim
    | _ => exact h.elim
  | _ => exact h.elim
noncomputable def EvP (C : Cx) (o : Option Expr) (st : St) (Q : SV → St → Prop) : Prop := match o with
  | some e => Ev C (eval e C.env) st Q
  | none => Q .none st
theorem EvP.wp {C : Cx} {o : Option Expr} {st : St} {Q : SV → St → Prop} (h : EvP C o st Q) (R : Frz) (s : Shared) (rr : Rel C R st s) : wpAny C.M C.A (evalPart o C.env) (VP C R Q) NoE s := by
  induction o with
  | some e => exact h R s rr
  | none => exact wpAny_pure ⟨R, .rfl, .none, st, rr, .none, h⟩
theorem Ev.sliceG {C : Cx} {st : St} {value : Expr} {lo hi : Option Expr} {p pos : Pos} {Q : SV → St → Prop}
    (h : Ev C (eval value C.env) st fun a st₁ => EvP C lo st₁ fun l st₂ => EvP C hi st₂ fun u st₃ => Sl C value (.Slice lo hi none p) a l u st₃ Q) : Ev C (eval (.Subscript value (.Slice lo hi none p) pos) C.env) st Q := fun R s rr => by
  refine Subscript_ (wpAny_mono (h R s rr) ?_ fun _ _ e => e)
  rintro v s1 ⟨R1, g1, a, st1, r1, hv, h1⟩
  refine wpAny_Slice (wpAny_mono (h1.wp R1 s1 r1) ?_ fun _ _ e => e)
  rintro vl s2 ⟨R2, g2, l, st2, r2, hl, h2⟩
  refine wpAny_mono (h2.wp R2 s2 r2) ?_ fun _ _ e => e
  rintro vu s3 ⟨R3, g3, u, st3, r3, hu, h3⟩
  exact wpAny_pure (wpAny_mono (h3 R3 s3 v vl vu r3 (hv.grows (g2.trans g3)) (hl.grows g3) hu) (fun _ _ q => q.grows (g1.trans (g2.trans g3))) fun _ _ e => e)
theorem EvP.mono {C : Cx} {o : Option Expr} {st : St} {Q Q' : SV → St → Prop} (h : EvP C o st Q) (hq : ∀ a st, Q a st → Q' a st) : EvP C o st Q' := by
  induction o with
  | some e => exact Ev.mono h hq
  | none => exact hq _ _ h
theorem Ev.slice {C : Cx} {st : St} {value : Expr} {lo hi : Option Expr} {p pos : Pos} {Q : SV → St → Prop}
    (h : Ev C (eval value C.env) st fun a st₁ => EvP C lo st₁ fun l st₂ => EvP C hi st₂ fun u st₃ => slS C value a l u st₃ Q) : Ev C (eval (.Subscript value (.Slice lo hi none p) pos) C.env) st Q :=
  Ev.sliceG (h.mono fun a st₁ q => q.mono fun l st₂ q => q.mono fun u st₃ q => slS_ok q fun _ _ => rfl)
theorem neg_ok {C : Cx} {st : St} {x : Expr} {pos : Pos} {Q : SV → St → Prop} (h : Ev C (eval x C.env) st fun a st₁ => match a with | .int c i => Q (.int c (-i)) st₁ | _ => False) : Ev C (eval (.UnaryOp .USub x pos) C.env) st Q := fun R s rr => by
  refine UnaryOp_ (wpAny_mono (h R s rr) ?_ fun _ _ e => e)
  rintro v s1 ⟨R1, g1, a, st1, r1, hv, h1⟩
  induction hv <;> first | exact h1.elim | skip
  exact neg_int ⟨R1, g1, _, st1, r1.toks _, .int, h1⟩
theorem Ev.call {C : Cx} (ok : C.Ok) {st : St} {f : Expr} {args : List Expr} {pos : Pos} {Q : SV → St → Prop} (hn : args.all notStar = true) (hf : plainFn f = true)
    (h : Ev C (eval f C.env) st fun a st₁ => Els C (spliced (backTo pos (starEach args C.env))) st₁ fun xs st₂ => kept C a = true ∧ Cl C a xs [] st₂ Q) : Ev C (eval (.Call f args [] pos) C.env) st Q := fun R s rr => by
  induction f using Expr.casesOn <;> first | cases hf | skip
  rename_i x np
  refine Call_ (wpAny_mono (h R s rr) ?_ fun _ _ e => e)
  rintro v s1 ⟨R1, g1, a, st1, r1, hv, h1⟩
  exact wpAny_mono (Cl.callWith (first := []) ok hn h1 R1 s1 v [] r1 hv .nil) (fun _ _ q => q.grows g1) fun _ _ e => e
end Mine
end
end

section
open PySem PySem.W PySem.Calls PyProof.Rows
noncomputable section
set_option Elab.async false
set_option maxRecDepth 100000
set_option autoImplicit false
set_option genSizeOf false
set_option genInjectivity false
set_option linter.unusedVariables false
set_option linter.unusedVariables false
namespace Mine

section
variable {C : Cx} {st : St}
theorem Ev.const_int {i : Int} {k : Nat} {pos : Pos} {Q : SV → St → Prop} (h : Q (.int true i) st) : Ev C (eval (.Constant (.int i) k pos) C.env) st Q := fun R s r =>
  wpAny_Constant_int ⟨R, .rfl, _, st, r.toks _, .int, h⟩
theorem Ev.const_str {x : Str} {k : Nat} {pos : Pos} {Q : SV → St → Prop} (h : Q (.str true x.cps.toList) st) : Ev C (eval (.Constant (.str x) k pos) C.env) st Q := fun R s r =>
  Constant_str ⟨R, .rfl, _, st, r.toks _, svOf_ok (.str x s.toks), h⟩
theorem Ev.const_bool {b : Bool} {k : Nat} {pos : Pos} {Q : SV → St → Prop} (h : Q (.bool true b) st) : Ev C (eval (.Constant (.bool b) k pos) C.env) st Q := fun R s r =>
  Constant_bool ⟨R, .rfl, _, st, r, .bool, h⟩
theorem Ev.const_none {k : Nat} {pos : Pos} {Q : SV → St → Prop} (h : Q .none st) : Ev C (eval (.Constant .none k pos) C.env) st Q := fun R s r =>
  Constant_none ⟨R, .rfl, _, st, r, .none, h⟩

/-! statements -/
theorem Es.assign (ok : C.Ok) {x : Str} {p pos : Pos} {value : Expr} {Q : SF → St → Prop} (hv : noSwap value = true) (h : Ev C (eval value C.env) st fun v st₁ => stS C x v st₁ (Q .next)) :
    Es C (exec (.Assign [.Name x p] value pos) C.env) st Q := fun R s rr => by
  refine wpAny_Assign_Name (wpAny_mono (h R s rr) ?_ fun _ _ e => e) (noSwap_ok hv _ _ _)
  rintro v s1 ⟨R1, g1, a, st1, r1, hv, h1⟩
  refine wpAny_mono (store_ok ok r1 hv h1) ?_ fun _ _ e => e
  rintro _ s2 ⟨st2, r2, h2⟩
  exact ⟨R1, g1, .next, st2, r2, .next, h2⟩
theorem Es.aug (ok : C.Ok) {x : Str} {p pos : Pos} {op : Operator} {value : Expr} {Q : SF → St → Prop} {a : SV} (hx : lk C.scope.names x = some .local) (ha : lk st.loc x = some a)
    (h : Ev C (eval value C.env) st fun b st₁ => E2 C (inplaceOp op) a b st₁ fun v st₂ => stS C x v st₂ (Q .next)) :
    Es C (exec (.AugAssign (.Name x p) op value pos) C.env) st Q := fun R s rr => by
  obtain ⟨m, F, hl⟩ := rr.fr
  obtain ⟨val, e1, e2⟩ := hl x a ha
  refine wpAny_AugAssign_Name (wpAny_loadName_local ok.hk ((lk_lookup x _).trans hx) F.ns e1 (wpAny_mono (h R s rr) ?_ fun _ _ e => e))
  rintro v s1 ⟨R1, g1, b, st1, r1, hv, h1⟩
  refine wpAny_mono (h1 R1 s1 val v r1 (e2.grows g1) hv) ?_ fun _ _ e => e
  rintro w s2 ⟨R2, g2, c, st2, r2, hw, h2⟩
  refine wpAny_mono (store_ok ok r2 hw h2) ?_ fun _ _ e => e
  rintro _ s3 ⟨st3, r3, h3⟩
  exact ⟨R2, g1.trans g2, .next, st3, r3, .next, h3⟩
noncomputable def lift (W : SF → St → Prop) : SF → St → Prop := W
theorem Es.nil {Q : SF → St → Prop} (h : Q .next st) : Es C (execs [] C.env) st Q := fun R s rr => wpAny_execs_nil ⟨R, .rfl, .next, st, rr, .next, h⟩
theorem Es.cons {x : Stmt} {rest : List Stmt} {Q : SF → St → Prop} (h : Es C (exec x C.env) st fun f st₁ => match f with
      | .next => Es C (execs rest C.env) st₁ Q
      | f => Q f st₁) : Es C (execs (x :: rest) C.env) st Q := fun R s rr => by
  refine wpAny_execs_cons (wpAny_mono (h R s rr) ?_ fun _ _ e => e)
  rintro f s1 ⟨R1, g1, sf, st1, r1, hf, h1⟩
  induction hf with
  | next => exact wpAny_mono (h1 R1 s1 r1) (fun _ _ q => q.grows g1) fun _ _ e => e
  | brk => exact ⟨R1, g1, _, st1, r1, .brk, h1⟩
  | cont => exact ⟨R1, g1, _, st1, r1, .cont, h1⟩
  | ret hv => exact ⟨R1, g1, _, st1, r1, .ret hv, h1⟩
theorem Es.ite {t : Expr} {b o : List Stmt} {pos : Pos} {Q : SF → St → Prop} (h : Et C (isTrue t C.env (eval t C.env)) st fun c st₁ => match c with
      | true => Es C (execs b C.env) st₁ Q
      | false => Es C (execs o C.env) st₁ Q) : Es C (exec (.If t b o pos) C.env) st Q := fun R s rr => by
  refine wpAny_If (wpAny_mono (h R s rr) ?_ fun _ _ e => e)
  rintro c s1 ⟨R1, g1, st1, r1, h1⟩
  induction c
  · exact wpAny_mono (h1 R1 s1 r1) (fun _ _ q => q.grows g1) fun _ _ e => e
  · exact wpAny_mono (h1 R1 s1 r1) (fun _ _ q => q.grows g1) fun _ _ e => e
theorem Es.ret {e : Expr} {pos : Pos} {Q : SF → St → Prop} (h : Ev C (eval e C.env) st fun v st₁ => Q (.ret v) st₁) : Es C (exec (.Return (some e) pos) C.env) st Q := fun R s rr =>
  wpAny_Return_some (wpAny_mono (h R s rr) (fun v s1 ⟨R1, g1, a, st1, r1, hv, h1⟩ => ⟨R1, g1, _, st1, r1, .ret hv, h1⟩) fun _ _ e => e)
theorem Es.ret0 {pos : Pos} {Q : SF → St → Prop} (h : Q (.ret .none) st) : Es C (exec (.Return none pos) C.env) st Q := fun R s rr => wpAny_Return_none ⟨R, .rfl, _, st, rr, .ret .none, h⟩
theorem Es.brk {pos : Pos} {Q : SF → St → Prop} (h : Q .brk st) : Es C (exec (.Break pos) C.env) st Q := fun R s rr => wpAny_Break ⟨R, .rfl, _, st, rr, .brk, h⟩
theorem Es.cont {pos : Pos} {Q : SF → St → Prop} (h : Q .cont st) : Es C (exec (.Continue pos) C.env) st Q := fun R s rr => wpAny_Continue ⟨R, .rfl, _, st, rr, .cont, h⟩
theorem Es.pass {pos : Pos} {Q : SF → St → Prop} (h : Q .next st) : Es C (exec (.Pass pos) C.env) st Q := fun R s rr => wpAny_Pass ⟨R, .rfl, _, st, rr, .next, h⟩
theorem Es.assert {t : Expr} {msg : Option Expr} {pos : Pos} {Q : SF → St → Prop} (h : Et C (isTrue t C.env (eval t C.env)) st fun c st₁ => c = true ∧ Q .next st₁) : Es C (exec (.Assert t msg pos) C.env) st Q := fun R s rr =>
  wpAny_Assert_holds (wpAny_mono (h R s rr) (fun c s1 ⟨R1, g1, st1, r1, e, h1⟩ => ⟨e, R1, g1, _, st1, r1, .next, h1⟩) fun _ _ e => e)
noncomputable def flat : SV → Bool
  | .none | .bool .. | .int .. | .str .. => true
  | _ => false
theorem Es.expr {e : Expr} {pos : Pos} {Q : SF → St → Prop} (ok : C.Ok) (hs : noSwap e = true) (h : Ev C (eval e C.env) st fun v st₁ => match flat v with | true => Q .next st₁ | false => False) : Es C (exec (.Expr e pos) C.env) st Q := fun R s rr => by
  refine wpAny_Expr (wpAny_mono (h R s rr) ?_ fun _ _ e => e) ?_ (noSwap_ok hs _ _ _)
  · rintro v s1 ⟨R1, g1, a, st1, r1, hv, h1⟩
    induction hv <;> first | exact ⟨R1, g1, .next, st1, r1, .next, h1⟩ | exact h1.elim
  · unfold interactive
    refine (?_ : (C.scope.kind == .module && _) = false)
    refine rg ok.hk ?_; rfl

theorem noted_of {M : Model} {A : Around} {env : Env} {e : Value} {s : Shared} {E : Value → Shared → Prop} (h : NoE e s) : notedBy M A env E e s := h.elim

noncomputable def Le (C : Cx) (st st' : St) : Prop := ∀ R s, Rel C R st s → Rel C R st' s
theorem Le.rfl {C : Cx} {st : St} : Le C st st := fun _ _ r => r
noncomputable def SVle (v v' : SV) : Prop := ∀ R y, VR R v y → VR R v' y
theorem SVle.rfl {v : SV} : SVle v v := fun _ _ h => h
theorem SVle.int {c d : Bool} {i j : Int} (h : i = j) : SVle (.int c i) (.int d j) := fun _ _ q => by subst h; cases q; exact .int
theorem SVle.str {c d : Bool} {i j : List Nat} (h : i = j) : SVle (.str c i) (.str d j) := fun _ _ q => by subst h; cases q; exact .str
theorem SVle.bool {c d : Bool} {i j : Bool} (h : i = j) : SVle (.bool c i) (.bool d j) := fun _ _ q => by subst h; cases q; exact .bool
inductive Lo : List (Str × SV) → List (Str × SV) → Prop
  | nil : Lo [] []
  | cons {x v v' l l'} : SVle v v' → Lo l l' → Lo ((x, v) :: l) ((x, v') :: l')
  | drop {l} : Lo l []
theorem Lo.lk {l l' : List (Str × SV)} (h : Lo l l') : ∀ x v', Mine.lk l' x = some v' → ∃ v, Mine.lk l x = some v ∧ SVle v v' := by
  induction h with
  | nil => intro x v' h; exact nsE h
  | drop => intro x v' h; exact nsE h
  | cons hv _ ih =>
    intro x v' h
    rw [lk_cons] at h ⊢
    split at h
    · obtain rfl := Option.some.inj h; exact ⟨_, by rfl, hv⟩
    · exact ih x v' h
inductive Me2 : List Cell → List Cell → Prop
  | nil : Me2 [] []
  | cons {k k' a o o' l l'} : (∀ R x, OR R a o x → OR R a o' x) → Me2 l l' → Me2 (⟨k, a, o⟩ :: l) (⟨k', a, o'⟩ :: l')
  | skip {c l l'} : Me2 l l' → Me2 (c :: l) l'
theorem Me2.mem {l l' : List Cell} (h : Me2 l l') : ∀ c' ∈ l', ∃ c ∈ l, c.a = c'.a ∧ ∀ R x, OR R c.a c.o x → OR R c'.a c'.o x := by
  induction h with
  | nil => intro c h; cases h
  | cons ho _ ih =>
    intro c h
    rcases List.mem_cons.mp h with rfl | h
    · exact ⟨_, .head _, by rfl, ho⟩
    · obtain ⟨d, a, b⟩ := ih c h; exact ⟨d, .tail _ a, b⟩
  | skip _ ih => intro c h; obtain ⟨d, a, b⟩ := ih c h; exact ⟨d, .tail _ a, b⟩
theorem Me2.sub {l l' : List Cell} (h : Me2 l l') : (l'.map (·.a)).Sublist (l.map (·.a)) := by
  induction h with
  | nil => exact .slnil
  | cons _ _ ih => exact .cons₂ _ ih
  | skip _ ih => exact .cons _ ih
theorem Me2.rfl {l : List Cell} : Me2 l l := by
  induction l with
  | nil => exact .nil
  | cons c l ih => exact .cons (fun _ _ h => h) ih
theorem Le.mk {C : Cx} {l l' : List (Str × SV)} {m m' : List Cell} {n n' : Nat} (hl : Lo l l') (hm : Me2 m m') : Le C ⟨l, m, n⟩ ⟨l', m', n'⟩ := fun R s r => by
  obtain ⟨mm, F, h⟩ := r.fr
  refine ⟨⟨mm, F, fun x v q => ?_⟩, fun c hc => ?_, fun a o h => ⟨(r.frz a o h).1, (r.frz a o h).2.1, fun c hc q => ?_⟩, r.ban, r.nd.sublist hm.sub, r.cvs, r.gens, r.os, fun p hp => let ⟨a, b, e⟩ := r.outs p hp; ⟨a, fun c hc q => (let ⟨d, h1, h2, _⟩ := hm.mem c hc; b d h1 (h2.trans q)), e⟩⟩
  · obtain ⟨v0, e1, e2⟩ := hl.lk x v q
    obtain ⟨val, e3, e4⟩ := h x v0 e1
    exact ⟨val, e3, e2 R val e4⟩
  · obtain ⟨d, h1, h2, h3⟩ := hm.mem c hc
    obtain ⟨o, a1, a2, a3⟩ := r.mem d h1
    exact ⟨o, h3 R o a1, h2 ▸ a2, h2 ▸ a3⟩
  · obtain ⟨d, h1, h2, h3⟩ := hm.mem c hc
    exact (r.frz a o h).2.2 d h1 (h2.trans q)

theorem Es.while (ok : C.Ok) {t : Expr} {body orelse : List Stmt} {pos : Pos} {Q : SF → St → Prop} (I : Nat → St → Prop) (n : Nat) (st0 : St) (hle : Le C st st0) (h0 : I n st0)
    (h : ∀ n st, I n st → Et C (isTrue t C.env (eval t C.env)) st fun c st₁ => match c with
      | true => Es C (execs body C.env) st₁ fun f st₂ => match f with
        | .next => ∃ m st3, m < n ∧ Le C st₂ st3 ∧ I m st3
        | .cont => ∃ m st3, m < n ∧ Le C st₂ st3 ∧ I m st3
        | .brk => Q .next st₂
        | .ret v => Q (.ret v) st₂
      | false => Es C (execs orelse C.env) st₁ Q) : Es C (exec (.While t body orelse pos) C.env) st Q := fun R s rr => by
  refine wpAny_While ?_
  refine codeAny_whileLoop (fun n s => ∃ R' st', Grows R R' ∧ Rel C R' st' s ∧ I n st') (fun n s ⟨R0, st0, g0, r0, i0⟩ => ?_) n ⟨R, st0, .rfl, hle R s rr, h0⟩
  refine wpAny_mono (h n st0 i0 R0 s r0) ?_ fun _ _ e => e.elim
  rintro c s1 ⟨R1, g1, st1, r1, h1⟩
  induction c
  · exact wpAny_mono (h1 R1 s1 r1) (fun _ _ q => q.grows (g0.trans g1)) fun _ _ e => e.elim
  · refine wpAny_mono (h1 R1 s1 r1) ?_ fun _ _ e => e.elim
    rintro f s2 ⟨R2, g2, sf, st2, r2, hf, h2⟩
    have g := g0.trans (g1.trans g2)
    induction hf with
    | next => obtain ⟨m, st3, a, le, b⟩ := h2; exact ⟨m, a, R2, st3, g, le R2 s2 r2, b⟩
    | cont => obtain ⟨m, st3, a, le, b⟩ := h2; exact ⟨m, a, R2, st3, g, le R2 s2 r2, b⟩
    | brk => exact ⟨R2, g, .next, st2, r2, .next, h2⟩
    | ret hv => exact ⟨R2, g, _, st2, r2, .ret hv, h2⟩

/-! two names at once -/
noncomputable def asg2 (C : Cx) (x y : Str) (v : SV) (st : St) (Q : St → Prop) : Prop :=
  match v with
  | .seq tup xs => match tup with
    | true => match xs with
      | [a, b] => stS C y b st fun st₁ => stS C x a st₁ Q
      | _ => False
    | false => False
  | _ => False
theorem unp {prog : Program} {w : World} {A : Around} {E : Value → Shared → Prop} {s : Shared} {t : Addr} {vs : List Value} {n : Nat} {Q : List Value → Shared → Prop} (hh : A.handled = none) (ht : IsTup s.heap t vs.toArray) (hn : n = vs.length)
    (hQ : ∀ h', Heap.ExtBut s.heap.objs.size s.heap h' → Q vs { s with heap := h' }) : wpAny (model prog w) A (unpackItems (.ref t) n none) Q E s := by
  have hn' : n = vs.toArray.size := by simpa using hn
  subst hn'
  exact unpackItems_tuple hh ht hQ
theorem inOrder2 {M : Model} {A : Around} {E : Value → Shared → Prop} {s : Shared} {env : Env} {x y : Str} {va vb : Value} {Q : Unit → Shared → Prop}
    (h : wpAny M A (bindName env y vb) (fun _ s₁ => wpAny M A (bindName env x va) (fun _ s₂ => Q () s₂) E s₁) E s) :
    wpAny M A (assignInOrder (([x, y] : List Str).reverse.map fun n => bindName env n) (List.reverse [va, vb])) Q E s := by
  refine (?_ : wpAny M A (do holding [va] (bindName env y vb); (do holding [] (bindName env x va); pure ())) Q E s)
  exact wpAny_bind (wpAny_holding (wpAny_mono h (fun _ s₁ h₁ => wpAny_bind (wpAny_holding (wpAny_mono h₁ (fun _ s₂ h₂ => wpAny_pure h₂) fun _ _ e => e))) fun _ _ e => e))
theorem Es.assign2 (ok : C.Ok) {x y : Str} {p1 p2 tp pos : Pos} {k : Nat} {value : Expr} {Q : SF → St → Prop} (hv : noSwap value = true)
    (hw : swappedStores [.Tuple [.Name x p1, .Name y p2] k tp] value C.env = pure (some [x, y])) (h : Ev C (eval value C.env) st fun v st₁ => asg2 C x y v st₁ (Q .next)) :
    Es C (exec (.Assign [.Tuple [.Name x p1, .Name y p2] k tp] value pos) C.env) st Q := fun R s rr => by
  refine Assign_Tuple_swapped (names := [x, y]) (wpAny_mono (h R s rr) ?_ fun _ _ e => e) (by unfold swapsWithSole; exact noSwap_ok hv _ _ _) hw
  rintro v s1 ⟨R1, g1, a, st1, r1, hv, h1⟩
  induction a using SV.casesOn <;> first | exact False.elim h1 | skip
  rename_i tup xs
  induction tup <;> first | exact False.elim h1 | skip
  rcases xs with _ | ⟨a, _ | ⟨b, _ | ⟨c, xs⟩⟩⟩ <;> first | exact False.elim h1 | skip
  · replace h1 : stS C y b st1 (fun st₁ => stS C x a st₁ (Q .next)) := h1
    obtain ⟨t, vs, rfl, ht, hvs⟩ := frzTup r1 hv
    obtain ⟨va, t1, rfl, ha, hvs⟩ := hvs.uncons
    obtain ⟨vb, t2, rfl, hb, hvs⟩ := hvs.uncons
    have := hvs.unnil; subst this
    refine unp ok.hh ht rfl fun h' he => ?_
    have r2 : Rel C R1 st1 { s1 with heap := h' } := r1.keep (fun b o e => he b o (Nat.ne_of_lt (Heap.lt_size e)) e) rfl rfl
    refine inOrder2 (wpAny_bindName (wpAny_mono (store_ok ok r2 hb h1) ?_ fun _ _ e => e))
    rintro _ s2 ⟨st2, r3, h2⟩
    refine wpAny_bindName (wpAny_mono (store_ok ok r3 ha h2) ?_ fun _ _ e => e)
    rintro _ s3 ⟨st3, r4, h3⟩
    exact ⟨R1, g1, .next, st3, r4, .next, h3⟩
end
end Mine
end
end

section
open PySem PySem.W PySem.Calls PyProof.Rows
noncomputable section
set_option Elab.async false
set_option maxRecDepth 100000
set_option autoImplicit false
set_option genSizeOf false
set_option genInjectivity false
set_option linter.unusedVariables false
set_option linter.unusedVariables false
namespace Mine

structure EvR where
  e : Expr → St → (SV → St → Prop) → Prop
  t : Expr → St → (Bool → St → Prop) → Prop
  s : Stmt → St → (SF → St → Prop) → Prop
structure EvR.Ok (C : Cx) (r : EvR) : Prop where
  e : ∀ x st Q, r.e x st Q → Ev C (eval x C.env) st Q
  t : ∀ x st Q, r.t x st Q → Et C (isTrue x C.env (eval x C.env)) st Q
  s : ∀ x st Q, r.s x st Q → Es C (exec x C.env) st Q

/-! several: the continuations are named, so that what is left of a goal is a short term -/
noncomputable abbrev VQ := SV → St → Prop
noncomputable abbrev LQ := List SV → St → Prop
noncomputable abbrev BQ := Bool → St → Prop
noncomputable abbrev FQ := SF → St → Prop
noncomputable def consK (a : SV) (Q : LQ) (xs : List SV) (st : St) : Prop := Q (a :: xs) st
noncomputable def elsK (ih : St → LQ → Prop) (Q : LQ) (a : SV) (st : St) : Prop := ih st (consK a Q)
noncomputable def elsN (st : St) (Q : LQ) : Prop := Q [] st
noncomputable def elsC (r : EvR) (x : Expr) (_ : List Expr) (ih : St → LQ → Prop) (st : St) (Q : LQ) : Prop :=
  match notStar x with
  | true => r.e x st (elsK ih Q)
  | false => False
noncomputable def elsR (r : EvR) (l : List Expr) : St → LQ → Prop := List.rec elsN (elsC r) l
theorem elsR_ok {C : Cx} {r : EvR} (h : r.Ok C) (pos : Pos) : ∀ (l : List Expr) (st : St) (Q : LQ), elsR r l st Q → Els C (spliced (backTo pos (starEach l C.env))) st Q
  | [], st, Q, q => Els.nil q
  | x :: rest, st, Q, q => by
    replace q : (match notStar x with | true => r.e x st (elsK (elsR r rest) Q) | false => False) := q
    cases e : notStar x with
    | true =>
      replace q := e ▸ q
      exact Els.cons e ((h.e _ _ _ q).mono fun a st₁ q => elsR_ok h pos rest st₁ _ q)
    | false => replace q := e ▸ q; exact q.elim
noncomputable def seqK (ih : St → FQ → Prop) (Q : FQ) (f : SF) (st : St) : Prop :=
  match f with
  | .next => ih st Q
  | .brk => Q .brk st
  | .cont => Q .cont st
  | .ret v => Q (.ret v) st
noncomputable def blkN (st : St) (Q : FQ) : Prop := Q .next st
noncomputable def blkC (r : EvR) (x : Stmt) (_ : List Stmt) (ih : St → FQ → Prop) (st : St) (Q : FQ) : Prop := r.s x st (seqK ih Q)
noncomputable def blkR (r : EvR) (l : List Stmt) : St → FQ → Prop := List.rec blkN (blkC r) l
theorem blkR_ok {C : Cx} {r : EvR} (h : r.Ok C) : ∀ (l : List Stmt) (st : St) (Q : FQ), blkR r l st Q → Es C (execs l C.env) st Q
  | [], st, Q, q => Es.nil q
  | x :: rest, st, Q, q => Es.cons ((h.s x st (seqK (blkR r rest) Q) q).mono fun f st₁ q => by
      induction f with
      | next => exact blkR_ok h rest st₁ _ q
      | _ => exact q)
noncomputable def andK (ih : St → BQ → Prop) (Q : BQ) (b : Bool) (st : St) : Prop := match b with | true => ih st Q | false => Q false st
noncomputable def orK (ih : St → BQ → Prop) (Q : BQ) (b : Bool) (st : St) : Prop := match b with | true => Q true st | false => ih st Q
noncomputable def andN (st : St) (Q : BQ) : Prop := Q true st
noncomputable def orN (st : St) (Q : BQ) : Prop := Q false st
noncomputable def andC (r : EvR) (x : Expr) (_ : List Expr) (ih : St → BQ → Prop) (st : St) (Q : BQ) : Prop := r.t x st (andK ih Q)
noncomputable def orC (r : EvR) (x : Expr) (_ : List Expr) (ih : St → BQ → Prop) (st : St) (Q : BQ) : Prop := r.t x st (orK ih Q)
noncomputable def andR (r : EvR) (l : List Expr) : St → BQ → Prop := List.rec andN (andC r) l
noncomputable def orR (r : EvR) (l : List Expr) : St → BQ → Prop := List.rec orN (orC r) l
theorem andR_ok {C : Cx} {r : EvR} (h : r.Ok C) (pos : Pos) (whole : Sem Value) : ∀ (l : List Expr) (st : St) (Q : BQ), andR r l st Q → Et C (isTrue (.BoolOp .And l pos) C.env whole) st Q
  | [], st, Q, q => fun R s rr => isTrue_and_nil ⟨R, .rfl, st, rr, q⟩
  | x :: rest, st, Q, q => Et.and ((h.t x st (andK (andR r rest) Q) q).mono fun b st₁ q => by
      induction b with
      | true => exact andR_ok h pos whole rest st₁ _ q
      | false => exact q)
theorem orR_ok {C : Cx} {r : EvR} (h : r.Ok C) (pos : Pos) (whole : Sem Value) : ∀ (l : List Expr) (st : St) (Q : BQ), orR r l st Q → Et C (isTrue (.BoolOp .Or l pos) C.env whole) st Q
  | [], st, Q, q => fun R s rr => isTrue_or_nil ⟨R, .rfl, st, rr, q⟩
  | x :: rest, st, Q, q => Et.or ((h.t x st (orK (orR r rest) Q) q).mono fun b st₁ q => by
      induction b with
      | true => exact q
      | false => exact orR_ok h pos whole rest st₁ _ q)

noncomputable def joinK (ih : List Nat → St → VQ → Prop) (acc : List Nat) (Q : VQ) (v : SV) (st : St) : Prop :=
  match v with
  | .str c y => acc.length + y.length ≤ szB ∧ ih (acc ++ y) st Q
  | _ => False
noncomputable def joinN (acc : List Nat) (st : St) (Q : VQ) : Prop := Q (.str false acc) st
noncomputable def joinC (r : EvR) (x : Expr) (_ : List Expr) (ih : List Nat → St → VQ → Prop) (acc : List Nat) (st : St) (Q : VQ) : Prop := r.e x st (joinK ih acc Q)
noncomputable def joinedR (r : EvR) (l : List Expr) : List Nat → St → VQ → Prop := List.rec joinN (joinC r) l
theorem joinedR_ok {C : Cx} {r : EvR} (h : r.Ok C) {Q : VQ} : ∀ (l : List Expr) (acc : List Nat) (st : St) (R : Frz) (s : Shared), acc.length ≤ szB → joinedR r l acc st Q → Rel C R st s →
    wpAny C.M C.A (joinParts ⟨acc.toArray⟩ (evalEach l C.env)) (VP C R Q) NoE s
  | [], acc, st, R, s, hz, q, rr => joinParts_nil ⟨R, .rfl, _, st, rr.toks _, .str, q⟩ (by refine rg (str_len ..) ?_; exact Nat.le_trans hz szB_line)
  | x :: rest, acc, st, R, s, hz, q, rr => by
    refine (?_ : wpAny _ _ (joinParts _ (eval x C.env :: evalEach rest C.env)) _ _ _)
    refine PyProof.Rows.joinParts_cons (wpAny_mono (h.e x st (joinK (joinedR r rest) acc Q) q R s rr) ?_ fun _ _ e => e)
    rintro v s1 ⟨R1, g1, sv, st1, r1, hv, q1⟩
    induction hv <;> first | exact q1.elim | skip
    obtain ⟨q1, q2⟩ := q1
    refine ⟨?_, ?_⟩
    · refine rg (str_append ..) (rg (str_len ..) (rg (List.length_append ..) ?_)); exact Nat.le_trans q1 szB_line
    · refine rg (str_append ..) ?_
      exact wpAny_mono (joinedR_ok h rest _ _ _ _ (by refine rg List.length_append ?_; exact q1) q2 r1) (fun _ _ q => q.grows g1) fun _ _ e => e

/-! expressions -/
noncomputable def stepConst (c : Const) (st : St) (Q : VQ) : Prop := match c with
  | .int i => Q (.int true i) st
  | .str s => Q (.str true s.cps.toList) st
  | .bool b => Q (.bool true b) st
  | .none => Q .none st
  | _ => False
theorem constE_ok {C : Cx} {c : Const} {k : Nat} {pos : Pos} {st : St} {Q : VQ} (q : stepConst c st Q) : Ev C (eval (.Constant c k pos) C.env) st Q := by
  cases c with
  | int => exact Ev.const_int q
  | str => exact Ev.const_str q
  | bool => exact Ev.const_bool q
  | none => exact Ev.const_none q
  | _ => exact q.elim
noncomputable def Ga (C : Cx) (a : SV) (attr : Str) (st : St) (Q : VQ) : Prop :=
  ∀ R s v, Rel C R st s → VR R a v → wpAny C.M C.A (getAttr v attr true) (VP C R Q) NoE s
noncomputable def optR (r : EvR) (o : Option Expr) (st : St) (Q : VQ) : Prop := match o with
  | some e => r.e e st Q
  | none => Q .none st
theorem optR_ok {C : Cx} {r : EvR} (h : r.Ok C) {o : Option Expr} {st : St} {Q : VQ} (q : optR r o st Q) : EvP C o st Q := by
  induction o with
  | some e => exact h.e _ _ _ q
  | none => exact q
noncomputable def boolK (Q : VQ) (c b : Bool) (st : St) : Prop := Q (.bool c b) st
noncomputable def nboolK (Q : VQ) (c b : Bool) (st : St) : Prop := Q (.bool c (!b)) st
noncomputable def brK (Q : BQ) (c b : Bool) (st : St) : Prop := branch c b (Q true st) (Q false st)
noncomputable def binK2 (C : Cx) (op : Operator) (a : SV) (Q : VQ) (b : SV) (st : St) : Prop := binS C op a b st Q
noncomputable def binK (C : Cx) (r : EvR) (op : Operator) (x : Expr) (Q : VQ) (a : SV) (st : St) : Prop := r.e x st (binK2 C op a Q)
noncomputable def cmpK2 (C : Cx) (op : CmpOp) (a : SV) (Q : Bool → Bool → St → Prop) (b : SV) (st : St) : Prop := cmpS C op a b st Q
noncomputable def cmpK (C : Cx) (r : EvR) (op : CmpOp) (x : Expr) (Q : Bool → Bool → St → Prop) (a : SV) (st : St) : Prop := r.e x st (cmpK2 C op a Q)
noncomputable def truK (C : Cx) (Q : Bool → Bool → St → Prop) (a : SV) (st : St) : Prop := truS C a st Q
noncomputable def iteK (r : EvR) (b o : Expr) (Q : VQ) (c : Bool) (st : St) : Prop := match c with | true => r.e b st Q | false => r.e o st Q
noncomputable def tupK (Q : VQ) (xs : List SV) (st : St) : Prop := match Nat.ble xs.length 1000 with | true => Q (.seq true xs) st | false => False
noncomputable def listK (Q : VQ) (xs : List SV) (st : St) : Prop := match Nat.ble xs.length 1000 with | true => ∀ a, newL st xs Q a | false => False
noncomputable def sliK3 (C : Cx) (v : Expr) (a l : SV) (Q : VQ) (u : SV) (st : St) : Prop := slS C v a l u st Q
noncomputable def sliK2 (C : Cx) (r : EvR) (v : Expr) (hi : Option Expr) (a : SV) (Q : VQ) (l : SV) (st : St) : Prop := optR r hi st (sliK3 C v a l Q)
noncomputable def sliK (C : Cx) (r : EvR) (v : Expr) (lo hi : Option Expr) (Q : VQ) (a : SV) (st : St) : Prop := optR r lo st (sliK2 C r v hi a Q)
noncomputable def itmK2 (C : Cx) (a : SV) (Q : VQ) (b : SV) (st : St) : Prop := subS C a b st Q
noncomputable def itmK (C : Cx) (r : EvR) (s : Expr) (Q : VQ) (a : SV) (st : St) : Prop := r.e s st (itmK2 C a Q)
noncomputable def calK2 (C : Cx) (a : SV) (Q : VQ) (xs : List SV) (st : St) : Prop := kept C a = true ∧ Cl C a xs [] st Q
noncomputable def calK (C : Cx) (r : EvR) (args : List Expr) (Q : VQ) (a : SV) (st : St) : Prop := elsR r args st (calK2 C a Q)
noncomputable def metK3 (C : Cx) (f : SV) (first : List SV) (Q : VQ) (xs : List SV) (st : St) : Prop := kept C f = true ∧ Cl C f (first ++ xs) [] st Q
noncomputable def metK2 (C : Cx) (r : EvR) (args : List Expr) (Q : VQ) (f : SV) (first : List SV) (st : St) : Prop := elsR r args st (metK3 C f first Q)
noncomputable def metK (C : Cx) (r : EvR) (name : Str) (args : List Expr) (Q : VQ) (a : SV) (st : St) : Prop := Me C a name st (metK2 C r args Q)
noncomputable def attK (C : Cx) (attr : Str) (Q : VQ) (a : SV) (st : St) : Prop := Ga C a attr st Q
noncomputable def negK (Q : VQ) (a : SV) (st : St) : Prop := match a with | .int c i => Q (.int c (-i)) st | _ => False
noncomputable def fmtK (Q : VQ) (a : SV) (st : St) : Prop := match a with
  | .str c x => small c x.length (Q (.str c x) st)
  | _ => False

noncomputable def cmpE (C : Cx) (r : EvR) (l : Expr) (ops : List CmpOp) (xs : List Expr) (pos : Pos) (st : St) (Q : VQ) : Prop :=
  match ops, xs with
  | [op], [x] => match behindInMarks op x with | true => False | false => r.e l st (cmpK C r op x (boolK Q))
  | ops, xs => Ev C (eval (.Compare l ops xs pos) C.env) st Q
theorem cmpE_ok {C : Cx} (ok : C.Ok) {r : EvR} (h : r.Ok C) {l : Expr} {ops : List CmpOp} {xs : List Expr} {pos : Pos} {st : St} {Q : VQ} (q : cmpE C r l ops xs pos st Q) : Ev C (eval (.Compare l ops xs pos) C.env) st Q := by
  rcases ops with _ | ⟨op, _ | ⟨op', ops⟩⟩
  · exact q
  · rcases xs with _ | ⟨x, _ | ⟨x', xs⟩⟩
    · exact q
    · replace q : (match behindInMarks op x with | true => False | false => r.e l st (cmpK C r op x (boolK Q))) := q
      cases hm : behindInMarks op x with
      | true => replace q := hm ▸ q; exact q.elim
      | false => replace q := hm ▸ q; exact Ev.cmp hm ((h.e _ _ _ q).mono fun a st₁ q => (h.e _ _ _ q).mono fun b st₂ q => cmpS_ok ok q)
    · exact q
  · exact q
noncomputable def unE (C : Cx) (r : EvR) (op : UnaryOp) (x : Expr) (pos : Pos) (st : St) (Q : VQ) : Prop :=
  match op with
  | .USub => r.e x st (negK Q)
  | .Not => r.e x st (truK C (nboolK Q))
  | op => Ev C (eval (.UnaryOp op x pos) C.env) st Q
theorem unE_ok {C : Cx} (ok : C.Ok) {r : EvR} (h : r.Ok C) {op : UnaryOp} {x : Expr} {pos : Pos} {st : St} {Q : VQ} (q : unE C r op x pos st Q) : Ev C (eval (.UnaryOp op x pos) C.env) st Q := by
  induction op with
  | USub => exact neg_ok ((h.e _ _ _ q).mono fun a st₁ q => q)
  | Not => exact Ev.not ((h.e _ _ _ q).mono fun a st₁ q => truS_ok ok q)
  | _ => exact q
noncomputable def subE (C : Cx) (r : EvR) (v s : Expr) (pos : Pos) (st : St) (Q : VQ) : Prop :=
  match isSlice s with
  | true => match s with
    | .Slice lo hi o _ => match o with
      | none => r.e v st (sliK C r v lo hi Q)
      | some _ => Ev C (eval (.Subscript v s pos) C.env) st Q
    | _ => False
  | false => r.e v st (itmK C r s Q)
theorem subE_ok {C : Cx} {r : EvR} (h : r.Ok C) {v s : Expr} {pos : Pos} {st : St} {Q : VQ} (q : subE C r v s pos st Q) : Ev C (eval (.Subscript v s pos) C.env) st Q := by
  cases s with
  | Slice lo hi o p =>
    induction o with
    | none => exact Ev.slice ((h.e v st (sliK C r v lo hi Q) q).mono fun a st₁ q => (optR_ok h q).mono fun l st₂ q => (optR_ok h q).mono fun u st₃ q => q)
    | some => exact q
  | _ => exact Ev.sub rfl ((h.e v st (itmK C r _ Q) q).mono fun a st₁ q => (h.e _ _ _ q).mono fun b st₂ q => q)
noncomputable def mthE (C : Cx) (r : EvR) (o : Expr) (name : Str) (apos : Pos) (args : List Expr) (pos : Pos) (st : St) (Q : VQ) : Prop :=
  match notSuper o with
  | true => match Nat.ble args.length 20 with
    | true => match Nat.beq apos.endLine pos.line with
      | true => r.e o st (metK C r name args Q)
      | false => False
    | false => False
  | false => False
theorem mthE_ok {C : Cx} (ok : C.Ok) {r : EvR} (h : r.Ok C) {o : Expr} {name : Str} {apos pos : Pos} {args : List Expr} {st : St} {Q : VQ} (hn : args.all notStar = true) (q : mthE C r o name apos args pos st Q) :
    Ev C (eval (.Call (.Attribute o name apos) args [] pos) C.env) st Q := by
  unfold mthE at q
  cases h1 : notSuper o with
  | false => replace q := h1 ▸ q; exact q.elim
  | true =>
    cases h2 : Nat.ble args.length 20 with
    | false => replace q := h2 ▸ h1 ▸ q; exact q.elim
    | true =>
      cases h3 : Nat.beq apos.endLine pos.line with
      | false => replace q := h3 ▸ h2 ▸ h1 ▸ q; exact q.elim
      | true =>
        replace q := h3 ▸ h2 ▸ h1 ▸ q
        exact Ev.meth ok hn h1 h2 h3 ((h.e _ _ _ q).mono fun a st₁ q R s v pl r hv => wpAny_mono (q R s v pl r hv) (fun p s' ⟨R', g, f, xs, st', a, b, c, q⟩ => ⟨R', g, f, xs, st', a, b, c, elsR_ok h _ _ _ _ q⟩) fun _ _ e => e)
noncomputable def calE (C : Cx) (r : EvR) (f : Expr) (args : List Expr) (pos : Pos) (st : St) (Q : VQ) : Prop :=
  match args.all notStar with
  | false => False
  | true => match f with
    | .Name x np => r.e (.Name x np) st (calK C r args Q)
    | .Attribute o name apos => mthE C r o name apos args pos st Q
    | f => Ev C (eval (.Call f args [] pos) C.env) st Q
theorem calE_ok {C : Cx} (ok : C.Ok) {r : EvR} (h : r.Ok C) {f : Expr} {args : List Expr} {pos : Pos} {st : St} {Q : VQ} (q : calE C r f args pos st Q) : Ev C (eval (.Call f args [] pos) C.env) st Q := by
  unfold calE at q
  cases hn : args.all notStar with
  | false => replace q := hn ▸ q; exact q.elim
  | true =>
    replace q := hn ▸ q
    induction f using Expr.casesOn with
    | Name x np => exact Ev.call ok hn rfl ((h.e _ _ _ q).mono fun a st₁ q => elsR_ok h _ _ _ _ q)
    | Attribute o name apos => exact mthE_ok ok h hn q
    | _ => exact q
noncomputable def fmtE (C : Cx) (r : EvR) (v : Expr) (conv : Int) (spec : Option Expr) (pos : Pos) (st : St) (Q : VQ) : Prop :=
  match decide (conv = -1) with
  | true => match spec with
    | none => r.e v st (fmtK Q)
    | some e => Ev C (eval (.FormattedValue v conv (some e) pos) C.env) st Q
  | false => Ev C (eval (.FormattedValue v conv spec pos) C.env) st Q
theorem fmtE_ok {C : Cx} {r : EvR} (h : r.Ok C) {v : Expr} {conv : Int} {spec : Option Expr} {pos : Pos} {st : St} {Q : VQ} (q : fmtE C r v conv spec pos st Q) : Ev C (eval (.FormattedValue v conv spec pos) C.env) st Q := by
  unfold fmtE at q
  cases hc : decide (conv = -1) with
  | false => replace q := hc ▸ q; exact q
  | true =>
    replace q := hc ▸ q
    induction spec with
    | some => exact q
    | none =>
      have hc := of_decide_eq_true hc
      subst hc
      intro R s rr
      refine PyProof.Rows.FormattedValue_plain (wpAny_mono (h.e _ _ _ q R s rr) ?_ fun _ _ e => e)
      rintro v s1 ⟨R1, g1, a, st1, r1, hv, h1⟩
      induction hv <;> first | exact h1.elim | skip
      obtain ⟨h1, h2⟩ := small_ok h1
      exact PyProof.Rows.formatField_str (fun t' tk => ⟨R1, g1, _, st1, r1.toks _, .str, h2⟩) (by refine rg (str_len ..) ?_; exact Nat.le_trans h1 szB_line)
noncomputable def joiE (C : Cx) (r : EvR) (vs : List Expr) (pos : Pos) (st : St) (Q : VQ) : Prop :=
  match vs with
  | a :: b :: l => joinedR r (a :: b :: l) [] st Q
  | vs => Ev C (eval (.JoinedStr vs pos) C.env) st Q
theorem joiE_ok {C : Cx} {r : EvR} (h : r.Ok C) {vs : List Expr} {pos : Pos} {st : St} {Q : VQ} (q : joiE C r vs pos st Q) : Ev C (eval (.JoinedStr vs pos) C.env) st Q := by
  rcases vs with _ | ⟨a, _ | ⟨b, l⟩⟩
  · exact q
  · exact q
  · intro R s rr
    exact PyProof.Rows.JoinedStr_many (joinedR_ok h (Q := Q) (a :: b :: l) [] st R s (Nat.zero_le _) q rr)
noncomputable def attE (C : Cx) (r : EvR) (o : Expr) (attr : Str) (st : St) (Q : VQ) : Prop := match notSuper o with | true => r.e o st (attK C attr Q) | false => False
theorem attE_ok {C : Cx} {r : EvR} (h : r.Ok C) {o : Expr} {attr : Str} {pos : Pos} {st : St} {Q : VQ} (q : attE C r o attr st Q) : Ev C (eval (.Attribute o attr pos) C.env) st Q := by
  unfold attE at q
  cases ho : notSuper o with
  | false => replace q := ho ▸ q; exact q.elim
  | true =>
    replace q := ho ▸ q
    intro R s rr
    refine Attribute_any_ (wpAny_mono (h.e _ _ _ q R s rr) ?_ fun _ _ e => e) ?_
    · rintro v s1 ⟨R1, g1, a, st1, r1, hv, h1⟩
      exact wpAny_mono (h1 R1 s1 v r1 hv) (fun _ _ q => q.grows g1) fun _ _ e => e
    · induction o using Expr.casesOn <;> first | rfl | (first | obtain ⟨_, rfl⟩ := VR.str' ho | obtain ⟨_, rfl⟩ := VR.int' ho | obtain rfl := VR.ref' ho | obtain rfl := VR.con' ho | obtain ⟨_, rfl, _⟩ := VR.bm' ho | obtain ⟨rfl, _⟩ := VR.fz' ho | obtain rfl := VR.bool' ho | obtain rfl := VR.none' ho | exact ftE ho)
noncomputable def nmE (C : Cx) (x : Str) (st : St) (Q : VQ) : Prop := match eqS x "__debug__" with | true => False | false => evName C x st Q
theorem nmE_ok {C : Cx} (ok : C.Ok) {x : Str} {pos : Pos} {st : St} {Q : VQ} (q : nmE C x st Q) : Ev C (eval (.Name x pos) C.env) st Q := by
  unfold nmE at q
  cases hd : eqS x "__debug__" with
  | true => replace q := hd ▸ q; exact q.elim
  | false => replace q := hd ▸ q; exact evName_ok ok hd q
theorem tupK_ok {Q : VQ} {xs : List SV} {st : St} (q : tupK Q xs st) : xs.length ≤ szB ∧ Q (.seq true xs) st := by
  unfold tupK at q
  cases e : Nat.ble xs.length 1000 with
  | true => replace q := e ▸ q; exact ⟨Nat.le_trans (Nat.le_of_ble_eq_true e) (by decide), q⟩
  | false => replace q := e ▸ q; exact q.elim
theorem listK_ok {Q : VQ} {xs : List SV} {st : St} (q : listK Q xs st) : xs.length ≤ szB ∧ ∀ a, newL st xs Q a := by
  unfold listK at q
  cases e : Nat.ble xs.length 1000 with
  | true => replace q := e ▸ q; exact ⟨Nat.le_trans (Nat.le_of_ble_eq_true e) (by decide), q⟩
  | false => replace q := e ▸ q; exact q.elim

noncomputable def stepE (C : Cx) (r : EvR) (e : Expr) (st : St) (Q : VQ) : Prop :=
  match e with
  | .Constant c _ _ => stepConst c st Q
  | .Name x _ => nmE C x st Q
  | .BinOp l op x _ => r.e l st (binK C r op x Q)
  | .Compare l ops xs pos => cmpE C r l ops xs pos st Q
  | .UnaryOp op x pos => unE C r op x pos st Q
  | .IfExp t b o _ => r.t t st (iteK r b o Q)
  | .Tuple elts _ _ => elsR r elts st (tupK Q)
  | .List elts _ => elsR r elts st (listK Q)
  | .Subscript v s pos => subE C r v s pos st Q
  | .Call f args kws pos => match kws with
    | [] => calE C r f args pos st Q
    | k :: kws => Ev C (eval (.Call f args (k :: kws) pos) C.env) st Q
  | .FormattedValue v conv spec pos => fmtE C r v conv spec pos st Q
  | .JoinedStr vs pos => joiE C r vs pos st Q
  | .Attribute o attr _ => attE C r o attr st Q
  | e => Ev C (eval e C.env) st Q
theorem stepE_ok {C : Cx} (ok : C.Ok) {r : EvR} (h : r.Ok C) (e : Expr) (st : St) (Q : VQ) (q : stepE C r e st Q) : Ev C (eval e C.env) st Q := by
  induction e using Expr.casesOn with
  | Constant c k pos => exact constE_ok q
  | Name x pos => exact nmE_ok ok q
  | BinOp l op x pos => exact Ev.bin ((h.e l st (binK C r op x Q) q).mono fun a st₁ q => (h.e _ _ _ q).mono fun b st₂ q => binS_ok ok q)
  | Compare l ops xs pos => exact cmpE_ok ok h q
  | UnaryOp op x pos => exact unE_ok ok h q
  | IfExp t b o pos => exact Ev.ifexp ((h.t t st (iteK r b o Q) q).mono fun c st₁ q => by induction c <;> exact h.e _ _ _ q)
  | Tuple elts k pos =>
    refine Ev.tuple ok ?_
    exact fun R s rr => wpAny_mono (elsR_ok h _ _ _ (tupK Q) q R s rr) (fun vs s1 ⟨R1, g1, xs, st1, r1, hv, q⟩ => ⟨R1, g1, xs, st1, r1, hv, tupK_ok q⟩) fun _ _ e => e
  | List elts pos =>
    refine Ev.list ?_
    exact fun R s rr => wpAny_mono (elsR_ok h _ _ _ (listK Q) q R s rr) (fun vs s1 ⟨R1, g1, xs, st1, r1, hv, q⟩ => ⟨R1, g1, xs, st1, r1, hv, listK_ok q⟩) fun _ _ e => e
  | Subscript v s pos => exact subE_ok h q
  | Call f args kws pos =>
    induction kws with
    | nil => exact calE_ok ok h q
    | cons => exact q
  | FormattedValue v conv spec pos => exact fmtE_ok h q
  | JoinedStr vs pos => exact joiE_ok h q
  | Attribute o attr pos => exact attE_ok h q
  | _ => exact q

/-! tests -/
noncomputable def cmpT (C : Cx) (r : EvR) (l : Expr) (ops : List CmpOp) (xs : List Expr) (pos : Pos) (st : St) (Q : BQ) : Prop :=
  match ops, xs with
  | [op], [x] => match behindInMarks op x with | true => False | false => r.e l st (cmpK C r op x (brK Q))
  | ops, xs => Et C (isTrue (.Compare l ops xs pos) C.env (eval (.Compare l ops xs pos) C.env)) st Q
theorem cmpT_ok {C : Cx} (ok : C.Ok) {r : EvR} (h : r.Ok C) {l : Expr} {ops : List CmpOp} {xs : List Expr} {pos : Pos} {st : St} {Q : BQ} (q : cmpT C r l ops xs pos st Q) : Et C (isTrue (.Compare l ops xs pos) C.env (eval (.Compare l ops xs pos) C.env)) st Q := by
  rcases ops with _ | ⟨op, _ | ⟨op', ops⟩⟩
  · exact q
  · rcases xs with _ | ⟨x, _ | ⟨x', xs⟩⟩
    · exact q
    · replace q : (match behindInMarks op x with | true => False | false => r.e l st (cmpK C r op x (brK Q))) := q
      cases hm : behindInMarks op x with
      | true => replace q := hm ▸ q; exact q.elim
      | false => replace q := hm ▸ q; exact Et.cmp hm ((h.e _ _ _ q).mono fun a st₁ q => (h.e _ _ _ q).mono fun b st₂ q => cmpS_ok ok q)
    · exact q
  · exact q
noncomputable def notK (Q : BQ) (b : Bool) (st : St) : Prop := Q (!b) st
noncomputable def stepT (C : Cx) (r : EvR) (e : Expr) (st : St) (Q : BQ) : Prop :=
  match e with
  | .Compare l ops xs pos => cmpT C r l ops xs pos st Q
  | .UnaryOp op x pos => match op with
    | .Not => r.t x st (notK Q)
    | op => Et C (isTrue (.UnaryOp op x pos) C.env (eval (.UnaryOp op x pos) C.env)) st Q
  | .BoolOp op l _ => match op with
    | .And => andR r l st Q
    | .Or => orR r l st Q
  | .Name x p => r.e (.Name x p) st (truK C (brK Q))
  | .Attribute o x p => r.e (.Attribute o x p) st (truK C (brK Q))
  | .Constant x k p => r.e (.Constant x k p) st (truK C (brK Q))
  | .Call f a k p => r.e (.Call f a k p) st (truK C (brK Q))
  | e => Et C (isTrue e C.env (eval e C.env)) st Q
theorem plainT_ok {C : Cx} (ok : C.Ok) {r : EvR} (h : r.Ok C) {e : Expr} {st : St} {Q : BQ} (he : isTrue e C.env (eval e C.env) = (do let v ← eval e C.env; standAt e.pos; holding [v] (truthy v))) (q : r.e e st (truK C (brK Q))) :
    Et C (isTrue e C.env (eval e C.env)) st Q := Et.plain he ((h.e _ _ _ q).mono fun a st₁ q => truS_ok ok q)
theorem stepT_ok {C : Cx} (ok : C.Ok) {r : EvR} (h : r.Ok C) (e : Expr) (st : St) (Q : BQ) (q : stepT C r e st Q) : Et C (isTrue e C.env (eval e C.env)) st Q := by
  induction e using Expr.casesOn with
  | Compare l ops xs pos => exact cmpT_ok ok h q
  | UnaryOp op x pos =>
    cases op with
    | Not => exact Et.not (h.t x st (notK Q) q)
    | _ => exact q
  | BoolOp op l pos =>
    cases op with
    | And => exact andR_ok h _ _ _ _ _ q
    | Or => exact orR_ok h _ _ _ _ _ q
  | Name x p => exact plainT_ok ok h rfl q
  | Attribute o x p => exact plainT_ok ok h rfl q
  | Constant x k p => exact plainT_ok ok h rfl q
  | Call f a k p => exact plainT_ok ok h rfl q
  | _ => exact q

/-! statements -/
noncomputable def Sa (C : Cx) (o v : SV) (name : Str) (st : St) (Q : St → Prop) : Prop :=
  ∀ R s ov vv, Rel C R st s → VR R o ov → VR R v vv → wpAny C.M C.A (setAttr ov name vv) (UP C R Q) NoE s
theorem Es.setattr {C : Cx} {st : St} {o value : Expr} {attr : Str} {p pos : Pos} {Q : FQ} (hv : noSwap value = true)
    (h : Ev C (eval value C.env) st fun v st₁ => Ev C (eval o C.env) st₁ fun ov st₂ => Sa C ov v attr st₂ (Q .next)) : Es C (exec (.Assign [.Attribute o attr p] value pos) C.env) st Q := fun R s rr => by
  refine plainObj_wpAny_Assign_Attribute (wpAny_mono (h R s rr) ?_ fun _ _ e => e) (noSwap_ok hv _ _ _)
  rintro v s1 ⟨R1, g1, a, st1, r1, hv, h1⟩
  refine wpAny_mono (h1 R1 s1 r1) ?_ fun _ _ e => e
  rintro w s2 ⟨R2, g2, b, st2, r2, hw, h2⟩
  refine wpAny_mono (h2 R2 s2 w v r2 hw (hv.grows g2)) ?_ fun _ _ e => e
  rintro _ s3 ⟨R3, g3, st3, r3, h3⟩
  exact ⟨R3, g1.trans (g2.trans g3), .next, st3, r3, .next, h3⟩
theorem Es.augattr {C : Cx} {st : St} {o value : Expr} {attr : Str} {op : Operator} {p pos : Pos} {Q : FQ}
    (h : Ev C (eval o C.env) st fun ov st₁ => Ga C ov attr st₁ fun old st₂ => Ev C (eval value C.env) st₂ fun v st₃ => E2 C (inplaceOp op) old v st₃ fun w st₄ => Sa C ov w attr st₄ (Q .next)) :
    Es C (exec (.AugAssign (.Attribute o attr p) op value pos) C.env) st Q := fun R s rr => by
  refine wpAny_AugAssign_AttributeAny (wpAny_mono (h R s rr) ?_ fun _ _ e => e)
  rintro ov s1 ⟨R1, g1, a, st1, r1, ho, h1⟩
  refine wpAny_mono (h1 R1 s1 ov r1 ho) ?_ fun _ _ e => e
  rintro old s2 ⟨R2, g2, b, st2, r2, hb, h2⟩
  refine wpAny_mono (h2 R2 s2 r2) ?_ fun _ _ e => e
  rintro v s3 ⟨R3, g3, c, st3, r3, hc, h3⟩
  refine wpAny_mono (h3 R3 s3 old v r3 (hb.grows g3) hc) ?_ fun _ _ e => e
  rintro w s4 ⟨R4, g4, d, st4, r4, hd, h4⟩
  refine wpAny_mono (h4 R4 s4 ov w r4 (ho.grows (g2.trans (g3.trans g4))) hd) ?_ fun _ _ e => e
  rintro _ s5 ⟨R5, g5, st5, r5, h5⟩
  exact ⟨R5, g1.trans (g2.trans (g3.trans (g4.trans g5))), .next, st5, r5, .next, h5⟩
noncomputable def stoK (C : Cx) (x : Str) (Q : FQ) (v : SV) (st : St) : Prop := stS C x v st (Q .next)
noncomputable def as2K (C : Cx) (x y : Str) (Q : FQ) (v : SV) (st : St) : Prop := asg2 C x y v st (Q .next)
noncomputable def satK2 (C : Cx) (attr : Str) (v : SV) (Q : FQ) (ov : SV) (st : St) : Prop := Sa C ov v attr st (Q .next)
noncomputable def satK (C : Cx) (r : EvR) (o : Expr) (attr : Str) (Q : FQ) (v : SV) (st : St) : Prop := r.e o st (satK2 C attr v Q)
noncomputable def auaK4 (C : Cx) (attr : Str) (ov : SV) (Q : FQ) (w : SV) (st : St) : Prop := Sa C ov w attr st (Q .next)
noncomputable def auaK3 (C : Cx) (attr : Str) (op : Operator) (ov old : SV) (Q : FQ) (v : SV) (st : St) : Prop := inplS C op old v st (auaK4 C attr ov Q)
noncomputable def auaK2 (C : Cx) (r : EvR) (attr : Str) (op : Operator) (value : Expr) (ov : SV) (Q : FQ) (old : SV) (st : St) : Prop := r.e value st (auaK3 C attr op ov old Q)
noncomputable def auaK (C : Cx) (r : EvR) (attr : Str) (op : Operator) (value : Expr) (Q : FQ) (ov : SV) (st : St) : Prop := Ga C ov attr st (auaK2 C r attr op value ov Q)
noncomputable def augK (C : Cx) (x : Str) (op : Operator) (a : SV) (Q : FQ) (b : SV) (st : St) : Prop := inplS C op a b st (stoK C x Q)
noncomputable def bloK (r : EvR) (b o : List Stmt) (Q : FQ) (c : Bool) (st : St) : Prop := match c with | true => blkR r b st Q | false => blkR r o st Q
noncomputable def retK (Q : FQ) (v : SV) (st : St) : Prop := Q (.ret v) st
noncomputable def assK (Q : FQ) (c : Bool) (st : St) : Prop := match c with | true => Q .next st | false => False
noncomputable def expK (Q : FQ) (v : SV) (st : St) : Prop := match flat v with | true => Q .next st | false => False
noncomputable def whiB (C : Cx) (I : Nat → St → Prop) (n : Nat) (Q : FQ) (f : SF) (st : St) : Prop := match f with
  | .next => ∃ m st3, m < n ∧ Le C st st3 ∧ I m st3
  | .cont => ∃ m st3, m < n ∧ Le C st st3 ∧ I m st3
  | .brk => Q .next st
  | .ret v => Q (.ret v) st
noncomputable def whiK (C : Cx) (r : EvR) (body orelse : List Stmt) (I : Nat → St → Prop) (n : Nat) (Q : FQ) (c : Bool) (st : St) : Prop := match c with
  | true => blkR r body st (whiB C I n Q)
  | false => blkR r orelse st Q

noncomputable def asnS (C : Cx) (r : EvR) (ts : List Expr) (value : Expr) (pos : Pos) (st : St) (Q : FQ) : Prop :=
  match ts with
  | [t] => match t with
    | .Name x _ => match noSwap value with
      | true => r.e value st (stoK C x Q)
      | false => Es C (exec (.Assign [t] value pos) C.env) st Q
    | .Attribute o attr _ => match noSwap value with
      | true => r.e value st (satK C r o attr Q)
      | false => False
    | .Tuple es k tp => match es with
      | [a, b] => match a with
        | .Name x p1 => match b with
          | .Name y p2 => match noSwap value with
            | true => swappedStores [.Tuple [.Name x p1, .Name y p2] k tp] value C.env = pure (some [x, y]) ∧ r.e value st (as2K C x y Q)
            | false => False
          | _ => False
        | _ => False
      | _ => False
    | _ => Es C (exec (.Assign [t] value pos) C.env) st Q
  | ts => Es C (exec (.Assign ts value pos) C.env) st Q
theorem asnS_ok {C : Cx} (ok : C.Ok) {r : EvR} (h : r.Ok C) {ts : List Expr} {value : Expr} {pos : Pos} {st : St} {Q : FQ} (q : asnS C r ts value pos st Q) : Es C (exec (.Assign ts value pos) C.env) st Q := by
  rcases ts with _ | ⟨t, _ | ⟨t', ts⟩⟩
  · exact q
  · induction t using Expr.casesOn with
    | Name x p =>
      replace q : (match noSwap value with | true => r.e value st (stoK C x Q) | false => Es C (exec (.Assign [.Name x p] value pos) C.env) st Q) := q
      cases hv : noSwap value with
      | true => replace q := hv ▸ q; exact Es.assign ok hv (h.e _ _ _ q)
      | false => replace q := hv ▸ q; exact q
    | Attribute o attr p =>
      replace q : (match noSwap value with | true => r.e value st (satK C r o attr Q) | false => False) := q
      cases hv : noSwap value with
      | true => replace q := hv ▸ q; exact Es.setattr hv ((h.e _ _ _ q).mono fun v st₁ q => h.e _ _ _ q)
      | false => replace q := hv ▸ q; exact q.elim
    | Tuple es k tp =>
      rcases es with _ | ⟨a, _ | ⟨b, _ | ⟨c, es⟩⟩⟩
      · exact q.elim
      · exact q.elim
      · induction a using Expr.casesOn <;> first | exact False.elim q | skip
        rename_i x p1
        induction b using Expr.casesOn <;> first | exact False.elim q | skip
        rename_i y p2
        replace q : (match noSwap value with | true => swappedStores [.Tuple [.Name x p1, .Name y p2] k tp] value C.env = pure (some [x, y]) ∧ r.e value st (as2K C x y Q) | false => False) := q
        cases hv : noSwap value with
        | true => replace q := hv ▸ q; exact Es.assign2 ok hv q.1 (h.e _ _ _ q.2)
        | false => replace q := hv ▸ q; exact q.elim
      · exact q.elim
    | _ => exact q
  · exact q
noncomputable def augS (C : Cx) (r : EvR) (t : Expr) (op : Operator) (value : Expr) (pos : Pos) (st : St) (Q : FQ) : Prop :=
  match t with
  | .Attribute o attr _ => r.e o st (auaK C r attr op value Q)
  | .Name x _ => match lk C.scope.names x with
    | some .local => match lk st.loc x with
      | some a => r.e value st (augK C x op a Q)
      | none => False
    | _ => False
  | t => Es C (exec (.AugAssign t op value pos) C.env) st Q
theorem augS_ok {C : Cx} (ok : C.Ok) {r : EvR} (h : r.Ok C) {t : Expr} {op : Operator} {value : Expr} {pos : Pos} {st : St} {Q : FQ} (q : augS C r t op value pos st Q) : Es C (exec (.AugAssign t op value pos) C.env) st Q := by
  induction t using Expr.casesOn with
  | Attribute o attr p => exact Es.augattr ((h.e o st (auaK C r attr op value Q) q).mono fun ov st₁ q R s v r hv => wpAny_mono (q R s v r hv) (fun _ _ ⟨R', g, sv, st', a, b, q⟩ => ⟨R', g, sv, st', a, b, (h.e _ _ _ q).mono fun v st₃ q => inplS_ok ok q⟩) fun _ _ e => e)
  | Name x p =>
    replace q : (match lk C.scope.names x with | some .local => (match lk st.loc x with | some a => r.e value st (augK C x op a Q) | none => False) | _ => False) := q
    cases hx : lk C.scope.names x with
    | none => replace q := hx ▸ q; exact q.elim
    | some k =>
      replace q := hx ▸ q
      induction k <;> first | exact False.elim q | skip
      cases ha : lk st.loc x with
      | none => replace q := ha ▸ q; exact q.elim
      | some a => replace q := ha ▸ q; exact Es.aug ok hx ha ((h.e _ _ _ q).mono fun b st₁ q => inplS_ok ok q)
  | _ => exact q
noncomputable def expS (C : Cx) (r : EvR) (e : Expr) (p : Pos) (st : St) (Q : FQ) : Prop := match noSwap e with
  | true => r.e e st (expK Q)
  | false => Es C (exec (.Expr e p) C.env) st Q
theorem expS_ok {C : Cx} (ok : C.Ok) {r : EvR} (h : r.Ok C) {e : Expr} {p : Pos} {st : St} {Q : FQ} (q : expS C r e p st Q) : Es C (exec (.Expr e p) C.env) st Q := by
  unfold expS at q
  cases hs : noSwap e with
  | true => replace q := hs ▸ q; exact Es.expr ok hs (h.e _ _ _ q)
  | false => replace q := hs ▸ q; exact q
noncomputable def stepS (C : Cx) (r : EvR) (x : Stmt) (st : St) (Q : FQ) : Prop :=
  match x with
  | .Assign ts value pos => asnS C r ts value pos st Q
  | .AugAssign t op value pos => augS C r t op value pos st Q
  | .If t b o _ => r.t t st (bloK r b o Q)
  | .Return v _ => match v with
    | some e => r.e e st (retK Q)
    | none => Q (.ret .none) st
  | .Break _ => Q .brk st
  | .Continue _ => Q .cont st
  | .Pass _ => Q .next st
  | .Assert t _ _ => r.t t st (assK Q)
  | .Expr e p => expS C r e p st Q
  | .While t body orelse _ => ∃ I : Nat → St → Prop, (∃ n st0, Le C st st0 ∧ I n st0) ∧ ∀ n st, I n st → r.t t st (whiK C r body orelse I n Q)
  | x => Es C (exec x C.env) st Q
theorem stepS_ok {C : Cx} (ok : C.Ok) {r : EvR} (h : r.Ok C) (x : Stmt) (st : St) (Q : FQ) (q : stepS C r x st Q) : Es C (exec x C.env) st Q := by
  induction x using Stmt.casesOn with
  | Assign ts value pos => exact asnS_ok ok h q
  | AugAssign t op value pos => exact augS_ok ok h q
  | «If» t b o pos => exact Es.ite ((h.t t st (bloK r b o Q) q).mono fun c st₁ q => by induction c <;> exact blkR_ok h _ _ _ q)
  | Return v pos =>
    induction v with
    | some e => exact Es.ret (h.e e st (retK Q) q)
    | none => exact Es.ret0 q
  | Break pos => exact Es.brk q
  | Continue pos => exact Es.cont q
  | Pass pos => exact Es.pass q
  | Assert t m pos => exact Es.assert ((h.t t st (assK Q) q).mono fun c st₁ q => by induction c <;> first | exact ⟨rfl, q⟩ | exact q.elim)
  | Expr e p => exact expS_ok ok h q
  | While t body orelse pos =>
    obtain ⟨I, ⟨n, st0, hle, h0⟩, q⟩ := q
    refine Es.while ok I n st0 hle h0 fun n st i => (h.t t st (whiK C r body orelse I n Q) (q n st i)).mono fun c st₁ q => ?_
    induction c
    · exact blkR_ok h _ _ _ q
    · exact (blkR_ok h body st₁ (whiB C I n Q) q).mono fun f st₂ q => by induction f <;> exact q
  | _ => exact q

noncomputable def evB (C : Cx) : EvR := ⟨fun e st Q => Ev C (eval e C.env) st Q, fun e st Q => Et C (isTrue e C.env (eval e C.env)) st Q, fun x st Q => Es C (exec x C.env) st Q⟩
noncomputable def evS (C : Cx) (_ : Nat) (ih : EvR) : EvR := ⟨stepE C ih, stepT C ih, stepS C ih⟩
noncomputable def ev (C : Cx) (n : Nat) : EvR := Nat.rec (evB C) (evS C) n
theorem ev_ok {C : Cx} (ok : C.Ok) : ∀ n, (ev C n).Ok C
  | 0 => ⟨fun _ _ _ q => q, fun _ _ _ q => q, fun _ _ _ q => q⟩
  | n + 1 => ⟨stepE_ok ok (ev_ok ok n), stepT_ok ok (ev_ok ok n), stepS_ok ok (ev_ok ok n)⟩
end Mine
end
end

section
open PySem PySem.W PySem.Calls PyProof.Rows
noncomputable section
set_option Elab.async false
set_option maxRecDepth 100000
set_option autoImplicit false
set_option linter.unusedVariables false
set_option linter.unusedVariables false
namespace Mine

noncomputable def fts (mem : List Cell) : List Nat → Option (List Cell)
  | [] => some []
  | k :: r => match mlk mem k with
    | some c => match fts mem r with | some l => some (c :: l) | none => none
    | none => none
noncomputable def msets (mem : List Cell) : List Nat → List SO → List Cell
  | k :: r, o :: os => msets (mset mem k o) r os
  | _, _ => mem
noncomputable def rk (n : Nat) : List Cell → List Cell
  | [] => []
  | c :: r => ⟨n, c.a, c.o⟩ :: rk (n + 1) r

theorem rk_mem {n : Nat} {l : List Cell} {c : Cell} (h : c ∈ rk n l) : ∃ d ∈ l, c.a = d.a ∧ c.o = d.o := by
  induction l generalizing n with
  | nil => cases h
  | cons d r ih =>
    rcases List.mem_cons.mp h with rfl | h
    · exact ⟨d, .head _, rfl, rfl⟩
    · obtain ⟨e, h1, h2⟩ := ih h
      exact ⟨e, .tail _ h1, h2⟩
theorem rk_map (n : Nat) (l : List Cell) : (rk n l).map (·.a) = l.map (·.a) := by
  induction l generalizing n with
  | nil => rfl
  | cons d r ih => refine (?_ : d.a :: _ = d.a :: _); exact rg (ih ..) rfl
theorem fts_mem {mem : List Cell} : ∀ {fk : List Nat} {ft : List Cell}, fts mem fk = some ft → ∀ c ∈ ft, c ∈ mem ∧ c.k ∈ fk
  | [], ft, h, c, hc => by obtain rfl := Option.some.inj h; cases hc
  | k :: r, ft, h, c, hc => by
    rw [fts] at h
    split at h
    · rename_i d hd
      split at h
      · rename_i l hl
        obtain rfl := Option.some.inj h
        rcases List.mem_cons.mp hc with rfl | hc
        · exact ⟨mlk_mem hd, by refine rg (mlk_key hd) ?_; exact .head _⟩
        · exact ⟨(fts_mem hl c hc).1, .tail _ (fts_mem hl c hc).2⟩
      · exact nsE h
    · exact nsE h
theorem nodup_inj {mem : List Cell} (h : (mem.map (·.a)).Nodup) {c d : Cell} (hc : c ∈ mem) (hd : d ∈ mem) (e : c.a = d.a) : c = d := by
  induction mem with
  | nil => cases hc
  | cons x r ih =>
    obtain ⟨h1, h2⟩ := List.nodup_cons.mp h
    rcases List.mem_cons.mp hc with q | hc'
    · rcases List.mem_cons.mp hd with q' | hd'
      · exact rg q (rg q' rfl)
      · subst q; exact (h1 (List.mem_map.mpr ⟨d, hd', e.symm⟩)).elim
    · rcases List.mem_cons.mp hd with q' | hd'
      · subst q'; exact (h1 (List.mem_map.mpr ⟨c, hc', e⟩)).elim
      · exact ih h2 hc' hd'
theorem fts_nodup {mem : List Cell} (hm : (mem.map (·.a)).Nodup) : ∀ {fk : List Nat} {ft : List Cell}, fts mem fk = some ft → fk.Nodup → (ft.map (·.a)).Nodup
  | [], ft, h, _ => by obtain rfl := Option.some.inj h; exact .nil
  | k :: r, ft, h, hn => by
    rw [fts] at h
    split at h
    · rename_i d hd
      split at h
      · rename_i l hl
        obtain rfl := Option.some.inj h
        obtain ⟨h1, h2⟩ := List.nodup_cons.mp hn
        refine List.nodup_cons.mpr ⟨fun q => ?_, fts_nodup hm hl h2⟩
        obtain ⟨c, hc, e⟩ := List.mem_map.mp q
        have h3 := fts_mem hl c hc
        have := nodup_inj hm h3.1 (mlk_mem hd) e
        subst this
        replace h3 := (mlk_key hd) ▸ h3
        exact h1 h3.2
      · exact nsE h
    · exact nsE h
theorem mset_map (mem : List Cell) (k : Nat) (o : SO) : (mset mem k o).map (·.a) = mem.map (·.a) := by
  induction mem with
  | nil => rfl
  | cons c r ih =>
    refine rg (mset_cons ..) ?_
    split
    · rfl
    · refine (?_ : c.a :: _ = c.a :: _); exact rg ih rfl
theorem msets_map : ∀ (fk : List Nat) (os : List SO) (mem : List Cell), (msets mem fk os).map (·.a) = mem.map (·.a)
  | [], _, _ => rfl
  | _ :: _, [], _ => rfl
  | k :: r, o :: os, mem => by
    show (msets (mset mem k o) r os).map _ = _
    rw [msets_map r os, mset_map]
theorem mset_mlk {mem : List Cell} {k k' : Nat} {o : SO} {c : Cell} (h : mlk (mset mem k o) k' = some c) : ∃ d, mlk mem k' = some d ∧ d.a = c.a := by
  induction mem with
  | nil => exact nsE h
  | cons x r ih =>
    rw [mset_cons] at h
    split at h
    · rw [mlk_cons] at h ⊢
      dsimp only at h
      split at h
      · obtain rfl := Option.some.inj h; exact ⟨x, rfl, rfl⟩
      · exact ⟨c, h, rfl⟩
    · rw [mlk_cons] at h ⊢
      split at h
      · exact ⟨x, rfl, by obtain rfl := Option.some.inj h; rfl⟩
      · exact ih h
theorem mset_mem {mem : List Cell} (hm : (mem.map (·.a)).Nodup) {k : Nat} {c d : Cell} {o : SO} (hc : mlk mem k = some c) (hd : d ∈ mset mem k o) : (d.a = c.a ∧ d.o = o) ∨ (d ∈ mem ∧ d.a ≠ c.a) := by
  obtain ⟨pre, post, e3, e4⟩ := mset_split (o := o) hc
  replace hm := e3 ▸ hm
  simp only [List.map_append, List.map_cons] at hm
  replace hd := e4 ▸ hd
  rcases List.mem_append.mp hd with q | q
  · right
    refine ⟨by refine rg e3 ?_; exact List.mem_append_left _ q, fun e => ?_⟩
    exact (List.nodup_append.mp hm).2.2 d.a (List.mem_map_of_mem q) c.a (.head _) e
  · rcases List.mem_cons.mp q with rfl | q
    · exact .inl ⟨rfl, rfl⟩
    · right
      refine ⟨by refine rg e3 ?_; exact List.mem_append_right _ (.tail _ q), fun e => ?_⟩
      exact (List.nodup_cons.mp (List.nodup_append.mp hm).2.1).1 (e ▸ List.mem_map_of_mem q)
theorem fts_mset {mem : List Cell} {k : Nat} {o : SO} : ∀ {fk : List Nat} {ft : List Cell}, fts mem fk = some ft → ∃ ft', fts (mset mem k o) fk = some ft' ∧ ft'.map (·.a) = ft.map (·.a)
  | [], ft, h => by obtain rfl := Option.some.inj h; exact ⟨[], rfl, rfl⟩
  | k' :: r, ft, h => by
    rw [fts] at h
    split at h
    · rename_i d hd
      split at h
      · rename_i l hl
        obtain rfl := Option.some.inj h
        obtain ⟨l', e1, e2⟩ := fts_mset (k := k) (o := o) hl
        have : ∃ d', mlk (mset mem k o) k' = some d' ∧ d'.a = d.a := by
          clear e1 e2 hl
          induction mem with
          | nil => exact nsE hd
          | cons x r ih =>
            rw [mlk_cons] at hd
            refine rg (mset_cons ..) ?_
            split
            · refine rg (mlk_cons ..) ?_
              dsimp only
              split at hd
              · obtain rfl := Option.some.inj hd; exact ⟨_, rfl, rfl⟩
              · exact ⟨d, hd, rfl⟩
            · refine rg (mlk_cons ..) ?_
              split at hd
              · obtain rfl := Option.some.inj hd; exact ⟨_, rfl, rfl⟩
              · exact ih hd
        obtain ⟨d', h1, h2⟩ := this
        refine ⟨d' :: l', ?_, by exact rg List.map_cons (rg List.map_cons (rg e2 (rg h2 rfl)))⟩
        refine (?_ : (match mlk (mset mem k o) k' with | some c => _ | none => _) = _)
        refine rg h1 ?_
        refine (?_ : (match fts (mset mem k o) r with | some l => _ | none => _) = _)
        exact rg e1 rfl
      · exact nsE h
    · exact nsE h
theorem msets_mem : ∀ {fk : List Nat} {ft2 ft : List Cell} {mem : List Cell}, (mem.map (·.a)).Nodup → fts mem fk = some ft → ft2.map (·.a) = ft.map (·.a) → ∀ d ∈ msets mem fk (ft2.map (·.o)), (∃ c ∈ ft2, d.a = c.a ∧ d.o = c.o) ∨ (d ∈ mem ∧ d.a ∉ ft.map (·.a))
  | [], ft2, ft, mem, hm, h, e, d, hd => by
    obtain rfl := Option.some.inj h
    refine .inr ⟨?_, fun q => nomatch q⟩
    induction ft2
    · exact hd
    · simp at e
  | k :: r, ft2, ft, mem, hm, h, e, d, hd => by
    rw [fts] at h
    split at h
    · rename_i c hc
      split at h
      · rename_i l hl
        obtain rfl := Option.some.inj h
        induction ft2 with
        | nil => simp at e
        | cons x ft2 =>
          simp only [List.map_cons, List.cons.injEq] at e
          obtain ⟨l', e1, e2⟩ := fts_mset (k := k) (o := x.o) hl
          have hd' : d ∈ msets (mset mem k x.o) r (ft2.map (·.o)) := hd
          rcases msets_mem (by refine rg (mset_map ..) ?_; exact hm) e1 (e.2.trans e2.symm) d hd' with ⟨y, h1, h2⟩ | ⟨h1, h2⟩
          · exact .inl ⟨y, .tail _ h1, h2⟩
          · rcases mset_mem hm hc h1 with ⟨q1, q2⟩ | ⟨q1, q2⟩
            · exact .inl ⟨x, .head _, by exact rg q1 (rg e.1 rfl), q2⟩
            · refine .inr ⟨q1, fun q => ?_⟩
              replace q := List.map_cons ▸ q
              rcases List.mem_cons.mp q with q | q
              · exact q2 q
              · exact h2 (e2 ▸ q)
      · exact nsE h
    · exact nsE h

theorem lk_zip {R : Frz} : ∀ {loc : List (Str × SV)} {vals : List Value}, VRs R (loc.map (·.2)) vals → (loc.map (·.1)).Nodup → ∀ x v, lk loc x = some v → ∃ val, ((loc.map (·.1)).zip vals).reverse.lookup x = some val ∧ VR R v val
  | [], vals, hv, hn, x, v, h => by exact nsE h
  | (y, u) :: r, vals, hv, hn, x, v, h => by
    obtain ⟨val, t, rfl, h1, h2⟩ := hv.uncons
    obtain ⟨n1, n2⟩ := List.nodup_cons.mp hn
    have key : ∀ (l : List (Str × Value)) (z : Str × Value), (l ++ [z]).lookup x = match l.lookup x with | some q => some q | none => if x = z.1 then some z.2 else none := by
      intro l z
      induction l with
      | nil =>
        refine (?_ : List.lookup x [z] = _)
        obtain ⟨a, b⟩ := z
        refine rg List.lookup_cons ?_
        by_cases q : x = a
        · subst q; simp
        · have : (x == a) = false := by simpa using q
          refine rg this ?_; simp [q]
      | cons w l ih =>
        obtain ⟨a, b⟩ := w
        refine rg List.cons_append (rg List.lookup_cons (rg List.lookup_cons ?_))
        cases x == a
        · exact ih
        · rfl
    show ∃ val', ((y, val) :: ((r.map (·.1)).zip t)).reverse.lookup x = _ ∧ _
    rw [List.reverse_cons, key]
    rw [lk_cons] at h
    split at h
    · rename_i e
      obtain rfl := Option.some.inj h
      have e := eqS_iff.mp e
      subst e
      have : ((r.map (·.1)).zip t).reverse.lookup y = none := by
        cases q : ((r.map (·.1)).zip t).reverse.lookup y with
        | none => rfl
        | some w =>
          exfalso
          have hm : ∀ (l : List (Str × Value)), l.lookup y = some w → y ∈ l.map (·.1) := by
            intro l
            induction l with
            | nil => intro h; exact nsE h
            | cons a l ih =>
              intro h
              rw [List.lookup_cons] at h
              split at h
              · rename_i q; rw [beq_iff_eq.mp q]; exact .head _
              · exact .tail _ (ih h)
          have := hm _ q
          rw [List.map_reverse, List.mem_reverse] at this
          obtain ⟨p, hp, e⟩ := List.mem_map.mp this
          have := (List.of_mem_zip (a := p.1) (b := p.2) hp).1
          exact n1 (e ▸ this)
      rw [this]
      exact ⟨val, by simp, h1⟩
    · obtain ⟨val', e1, e2⟩ := lk_zip h2 n2 x v h
      rw [e1]
      exact ⟨val', rfl, e2⟩

/-- the context of a call's body -/
noncomputable def outNow (C : Cx) (s : Shared) : List (Addr × Obj) := (C.L :: C.outs.map (·.1)).map fun a => (a, (s.heap.get? a).getD default)
noncomputable def hid (C : Cx) (ft : List Cell) : List Addr := (C.L :: C.outs.map (·.1)) ++ ft.map (·.a)
noncomputable def callee (C : Cx) (A : Around) (g : Heap) (L : Addr) (name : Str) (scope : Scope) (fa : Addr) (cd : Value) (cells : List (Str × Addr)) (cvs : List (Str × SV)) (ban : List Addr) (outs : List (Addr × Obj)) : Cx :=
  ⟨C.prog, C.w, A, g, L, name, scope, fa, cd, cells, C.K, cvs, C.glb, C.os, ban, outs, C.env :: C.oenv⟩

noncomputable def retV : SF → SV
  | .ret v => v
  | _ => .none

/-- what a body must show at its end -/
noncomputable def Fin (C : Cx) (st : St) (fk : List Nat) (ft : List Cell) (Q : SV → St → Prop) (f : SF) (st2 : St) : Prop :=
  ∃ nw ft2 v, (nw ++ ft2).Sublist st2.mem ∧ ft2.map (·.a) = ft.map (·.a) ∧ (∀ R x, VR R (retV f) x → VR R v x) ∧ Q v ⟨st.loc, rk st.nk nw ++ msets st.mem fk (ft2.map (·.o)), st.nk + nw.length⟩

theorem Rel.outAt {C : Cx} {R : Frz} {st : St} {s : Shared} (r : Rel C R st s) {a : Addr} (h : a ∈ C.L :: C.outs.map (·.1)) : ∃ o, s.heap.get? a = some o ∧ (a, o) ∈ outNow C s := by
  have : ∃ o, s.heap.get? a = some o := by
    rcases List.mem_cons.mp h with rfl | h
    · obtain ⟨m, F, _⟩ := r.fr
      obtain ⟨oL, es, ep, e1, e2⟩ := F.ns
      exact ⟨oL, e1⟩
    · obtain ⟨p, hp, rfl⟩ := List.mem_map.mp h
      obtain ⟨_, _, sl, e⟩ := r.outs p hp
      exact ⟨_, e⟩
  obtain ⟨o, ho⟩ := this
  refine ⟨o, ho, ?_⟩
  unfold outNow
  exact List.mem_map.mpr ⟨a, h, by refine rg ho ?_; rfl⟩
theorem Rel.notOut {C : Cx} {R : Frz} {st : St} {s : Shared} (r : Rel C R st s) {c : Cell} (hc : c ∈ st.mem) : c.a ∉ C.L :: C.outs.map (·.1) := fun h => by
  rcases List.mem_cons.mp h with e | h
  · obtain ⟨_, _, _, ne, _⟩ := r.mem c hc; exact ne e
  · obtain ⟨p, hp, e⟩ := List.mem_map.mp h
    exact (r.outs p hp).2.1 c hc e.symm
theorem Rel.baseIn {C : Cx} (ok : C.Ok) {R : Frz} {st : St} {s : Shared} (r : Rel C R st s) {b : Addr} {o : Obj} (e : C.h₀.get? b = some o) : b ∉ C.L :: C.outs.map (·.1) := fun h => by
  rcases List.mem_cons.mp h with q | h
  · obtain ⟨m, F, _⟩ := r.fr
    have := Heap.lt_size e
    replace this := q ▸ this
    exact absurd this (Nat.not_lt.mpr F.above)
  · obtain ⟨p, hp, q⟩ := List.mem_map.mp h
    have := (ok.ohide p hp).1
    replace this := e ▸ q ▸ this; exact snE this
theorem back {C C' : Cx} (ok : C.Ok) {st st2 : St} {R R2 : Frz} {s s2 : Shared} {fk : List Nat} {ft nw ft2 : List Cell} (r : Rel C R st s) (g : Grows R R2) (r2 : Rel C' R2 st2 s2)
    (hg : C'.h₀ = hideAll s.heap (hid C ft)) (houts : C'.outs = outNow C s) (hfk : fk.Nodup) (hft : fts st.mem fk = some ft) (hos : C'.os = C.os) (hban : ∀ a, a = C.L ∨ a ∈ C.ban ∨ (a ∈ st.mem.map (·.a) ∧ a ∉ ft.map (·.a)) → a ∈ C'.ban)
    (hs : (nw ++ ft2).Sublist st2.mem) (ha : ft2.map (·.a) = ft.map (·.a)) : Rel C R2 ⟨st.loc, rk st.nk nw ++ msets st.mem fk (ft2.map (·.o)), st.nk + nw.length⟩ s2 := by
  obtain ⟨m, F, hl⟩ := r.fr
  obtain ⟨m', F', _⟩ := r2.fr
  have ftm := fts_mem hft
  have keep : ∀ b o, b ∉ C.L :: C.outs.map (·.1) → b ∉ ft.map (·.a) → s.heap.get? b = some o → s2.heap.get? b = some o := fun b o nb nb' e => F'.keep b o (by
    refine rg hg ?_; exact hideAll_get _ e fun q => (List.mem_append.mp q).elim nb nb')
  have shown : ∀ b o, b ∉ C.L :: C.outs.map (·.1) → b ∉ ft.map (·.a) → s.heap.get? b = some o → C'.h₀.get? b = some o := fun b o nb nb' e => by
    refine rg hg ?_; exact hideAll_get _ e fun q => (List.mem_append.mp q).elim nb nb'
  have nh : ∀ b o, C.h₀.get? b = some o → b ∉ ft.map (·.a) := fun b o e q => by
    obtain ⟨c, hc, q⟩ := List.mem_map.mp q
    obtain ⟨_, _, _, _, z⟩ := r.mem c (ftm c hc).1
    replace z := e ▸ q ▸ z; exact snE z
  have outs2 : ∀ a o, s.heap.get? a = some o → a ∈ C.L :: C.outs.map (·.1) → (∀ c ∈ st2.mem, c.a ≠ a) ∧ ∃ sl, s2.heap.get? a = some { o with slots := sl } := fun a o e h => by
    obtain ⟨o', h1, h2⟩ := r.outAt h
    replace h1 := e ▸ h1; (first | obtain ⟨_, rfl⟩ := VR.str' h1 | obtain ⟨_, rfl⟩ := VR.int' h1 | obtain rfl := VR.ref' h1 | obtain rfl := VR.con' h1 | obtain ⟨_, rfl, _⟩ := VR.bm' h1 | obtain ⟨rfl, _⟩ := VR.fz' h1 | obtain rfl := VR.bool' h1 | obtain rfl := VR.none' h1 | obtain rfl := Option.some.inj h1)
    obtain ⟨_, q1, q2⟩ := r2.outs (a, o) (houts ▸ h2)
    exact ⟨q1, q2⟩
  obtain ⟨oL, es, ep, e1, e2⟩ := F.ns
  obtain ⟨nL2, slL, eL2⟩ := outs2 C.L oL e1 (.head _)
  have isNew : ∀ c ∈ nw ++ ft2, c ∈ st2.mem := fun c hc => hs.subset hc
  have nd2 := r2.nd.sublist (hs.map (·.a))
  replace nd2 := List.map_append ▸ nd2
  have dis : ∀ c ∈ st2.mem, C'.h₀.get? c.a = none := fun c hc => let ⟨_, _, _, _, z⟩ := r2.mem c hc; z
  have one : ∀ c ∈ rk st.nk nw ++ msets st.mem fk (ft2.map (·.o)), (∃ d ∈ st2.mem, c.a = d.a ∧ c.o = d.o) ∨ (c ∈ st.mem ∧ c.a ∉ ft.map (·.a)) := fun c hc => by
    rcases List.mem_append.mp hc with q | q
    · obtain ⟨d, h1, h2⟩ := rk_mem q
      exact .inl ⟨d, isNew d (List.mem_append_left _ h1), h2⟩
    · rcases msets_mem r.nd hft ha c q with ⟨d, h1, h2⟩ | q
      · exact .inl ⟨d, isNew d (List.mem_append_right _ h1), h2⟩
      · exact .inr q
  refine ⟨⟨m, ⟨⟨_, es, ep, eL2, e2⟩, fun b o e => keep b o (r.baseIn ok e) (nh b o e) (F.keep b o e), F.above⟩, fun x v h => let ⟨val, a, b⟩ := hl x v h; ⟨val, a, b.grows g⟩⟩, fun c hc => ?_, fun a o h => ?_, fun a o h q => ?_, ?_,
    fun x v h => let ⟨c, o, val, a, b, d, e⟩ := r.cvs x v h; ⟨c, o, val, a, g _ _ b, d, e.grows g⟩, r2.gens, r2.os.trans hos, fun p hp => ?_⟩
  · rcases one c hc with ⟨d, hd, q1, q2⟩ | ⟨h1, h2⟩
    · obtain ⟨o, a1, a2, a3, a4⟩ := r2.mem d hd
      refine rg q1 (rg q2 ?_)
      refine ⟨o, a1, a2, nL2 d hd, ?_⟩
      cases q : C.h₀.get? d.a with
      | none => rfl
      | some x => replace a4 := (shown _ _ (r.baseIn ok q) (nh _ _ q) (F.keep _ _ q)) ▸ a4; exact snE a4
    · obtain ⟨o, a1, a2, a3⟩ := r.mem c h1
      exact ⟨o, a1.grows g, keep _ _ (r.notOut h1) h2 a2, a3⟩
  · obtain ⟨b1, b2, b3⟩ := r2.frz a o h
    have hb := r2.ban a o h
    refine ⟨b1, fun q => hb (hban a (.inl q)), fun c hc q => ?_⟩
    rcases one c hc with ⟨d, hd, q1, q2⟩ | ⟨h1, h2⟩
    · exact b3 d hd (q1 ▸ q)
    · exact hb (hban a (.inr (.inr (q ▸ ⟨List.mem_map_of_mem h1, h2⟩))))
  · exact r2.ban a o h (hban a (.inr (.inl q)))
  · rw [List.map_append, rk_map, msets_map]
    refine List.nodup_append.mpr ⟨(List.nodup_append.mp nd2).1, r.nd, fun a ha' b hb q => ?_⟩
    subst q
    obtain ⟨c, hc, rfl⟩ := List.mem_map.mp ha'
    obtain ⟨d, hd, e⟩ := List.mem_map.mp hb
    by_cases z : d.a ∈ ft.map (·.a)
    · rw [← ha] at z
      exact (List.nodup_append.mp nd2).2.2 c.a ha' d.a z e.symm
    · obtain ⟨o, _, h2, _⟩ := r.mem d hd
      have := dis c (isNew c (List.mem_append_left _ hc))
      rw [← e, shown _ _ (r.notOut hd) z h2] at this; exact snE this
  · obtain ⟨a1, b1, sl, e⟩ := r.outs p hp
    obtain ⟨q1, sl2, q2⟩ := outs2 p.1 _ e (.tail _ (List.mem_map_of_mem hp))
    refine ⟨a1, fun c hc => ?_, sl2, q2⟩
    rcases one c hc with ⟨d, hd, z1, z2⟩ | ⟨h1, h2⟩
    · refine rg z1 ?_; exact q1 d hd
    · exact b1 c h1
end Mine
end
end

section
open PySem PySem.W PySem.Calls PyProof.Rows
noncomputable section
set_option Elab.async false
set_option maxRecDepth 100000
set_option autoImplicit false
set_option genSizeOf false
set_option genInjectivity false
set_option linter.unusedVariables false
set_option linter.unusedVariables false
namespace Mine

noncomputable def banOf (C : Cx) (st : St) (ft : List Cell) : List Addr := C.L :: (C.ban ++ (st.mem.map (·.a)).filter fun a => !(ft.map (·.a)).contains a)

/-- two stacks alike -/
structure SameA (A0 A : Around) : Prop where
  hh : A0.handled = A.handled
  fr : A0.frames = A.frames
theorem SameA.rfl {A : Around} : SameA A A := ⟨Eq.refl _, Eq.refl _⟩
/-- the callee's context is good, and its first state -/
theorem enter {C : Cx} (ok : C.Ok) {st : St} {R : Frz} {s : Shared} {fk : List Nat} {ft : List Cell} {h₁ : Heap} {tk : Nat} {A : Around} {name : Str} {scope : Scope} {fa : Addr} {cd : Value} {loc : List (Str × SV)} {vals : List Value} {n : Nat}
    (r : Rel C R st s) (hfk : fk.Nodup) (hft : fts st.mem fk = some ft) (hA : A.depth < 900) (hAh : A.handled = C.A.handled) (hAf : A.frames = C.A.frames.map (envX name scope s.heap.objs.size fa cd [] :: ·)) (hk : scope.kind = .function)
    (hns : h₁.Ns s.heap.objs.size (fun x => ((loc.map (·.1)).zip vals).reverse.lookup x)) (hk₁ : ∀ b o, s.heap.get? b = some o → h₁.get? b = some o)
    (hv : VRs R (loc.map (·.2)) vals) (hnd : (loc.map (·.1)).Nodup) :
    (callee C A (hideAll s.heap (hid C ft)) s.heap.objs.size name scope fa cd [] [] (banOf C st ft) (outNow C s)).Ok ∧
      Rel (callee C A (hideAll s.heap (hid C ft)) s.heap.objs.size name scope fa cd [] [] (banOf C st ft) (outNow C s)) R ⟨loc, rk 0 ft, n⟩ { s with heap := h₁, toks := tk } := by
  obtain ⟨m, F, hl⟩ := r.fr
  have ftm := fts_mem hft
  have nh : ∀ b o, C.h₀.get? b = some o → b ∉ ft.map (·.a) := fun b o e q => by
    obtain ⟨c, hc, q⟩ := List.mem_map.mp q
    obtain ⟨_, _, _, _, z⟩ := r.mem c (ftm c hc).1
    replace z := e ▸ q ▸ z; exact snE z
  have up : ∀ b o, C.h₀.get? b = some o → (hideAll s.heap (hid C ft)).get? b = some o := fun b o e => hideAll_get _ (F.keep b o e) fun q => (List.mem_append.mp q).elim (r.baseIn ok e) (nh b o e)
  have lt : ∀ c ∈ st.mem, c.a < s.heap.objs.size := fun c hc => let ⟨_, _, q, _⟩ := r.mem c hc; Heap.lt_size q
  have onow : ∀ p ∈ outNow C s, p.1 ∈ C.L :: C.outs.map (·.1) ∧ s.heap.get? p.1 = some p.2 := fun p hp => by
    unfold outNow at hp
    obtain ⟨a, ha, rfl⟩ := List.mem_map.mp hp
    obtain ⟨o, ho, _⟩ := r.outAt ha
    exact ⟨ha, by refine (?_ : _ = some ((s.heap.get? a).getD default)); refine rg ho ?_; rfl⟩
  have nofld : ∀ a o, a ∈ C.L :: C.outs.map (·.1) → s.heap.get? a = some o → ∀ vs, o.data ≠ .fields vs := fun a o ha ho vs q => by
    rcases List.mem_cons.mp ha with rfl | ha
    · obtain ⟨oL, es, ep, e1, e2, _⟩ := F.ns
      replace e1 := ho ▸ e1; obtain rfl := Option.some.inj e1
      replace q := e2 ▸ q; cases q
    · obtain ⟨p, hp, rfl⟩ := List.mem_map.mp ha
      obtain ⟨_, _, sl, e⟩ := r.outs p hp
      replace e := ho ▸ e; obtain rfl := Option.some.inj e
      exact (ok.ohide p hp).2.2 vs q
  constructor
  · obtain ⟨p, loose, mg, mb, T⟩ := ok.top
    refine ⟨ok.X.keeps up, hk, ok.glb, ⟨p, loose, mg, mb, T.keeps up⟩, hAh.trans ok.hh, ok.lim.keeps up, ?_, fun b hb => ?_, ?_, ?_, fun e he => ?_, fun p hp => ?_⟩
    · refine (?_ : A.depth < 900)
      exact hA
    · refine (?_ : b < (hideAll s.heap _).objs.size)
      refine rg (hideAll_size ..) ?_
      rcases List.mem_cons.mp hb with rfl | hb
      · exact r.lt
      · rcases List.mem_append.mp hb with hb | hb
        · exact Nat.lt_of_lt_of_le (ok.ban b hb) (Nat.le_of_lt (Nat.lt_of_le_of_lt F.above r.lt))
        · obtain ⟨c, hc, rfl⟩ := List.mem_map.mp (List.mem_filter.mp hb).1
          exact lt c hc
    · refine (?_ : A.frames = _)
      refine rg hAf (rg ok.frames ?_); rfl
    · refine (?_ : (C.env :: C.oenv).map (·.frame) = (outNow C s).map fun p => some p.1)
      unfold outNow
      refine rg List.map_map (rg List.map_cons (rg List.map_cons (rg ok.onames (rg List.map_map ?_))))
      rfl
    · rcases List.mem_cons.mp he with rfl | he
      · refine (?_ : C.scope.kind ≠ _)
        refine rg ok.hk ?_; decide
      · exact ok.okind e he
    · obtain ⟨h1, h2⟩ := onow p hp
      refine ⟨hideAll_none _ (List.mem_append_left _ h1), ?_, nofld _ _ h1 h2⟩
      rcases List.mem_cons.mp h1 with q | q
      · refine rg q ?_; exact .head _
      · obtain ⟨p', hp', e⟩ := List.mem_map.mp q
        exact .tail _ (List.mem_append_left _ (e ▸ (ok.ohide p' hp').2.1))
  · refine ⟨⟨_, ⟨hns, fun b o e => hk₁ b o (of_hideAll _ e), Nat.le_of_eq (hideAll_size _ _)⟩, lk_zip hv hnd⟩, fun c hc => ?_, fun a o h => ?_, fun a o h q => ?_, ?_, fun x v h => (by exact nsE h), r.gens, r.os, fun p hp => ?_⟩
    · obtain ⟨d, hd, q1, q2⟩ := rk_mem hc
      obtain ⟨o, a1, a2, a3⟩ := r.mem d (ftm d hd).1
      refine rg q1 (rg q2 ?_)
      exact ⟨o, a1, hk₁ _ _ a2, Nat.ne_of_lt (Heap.lt_size a2), hideAll_none _ (List.mem_append_right _ (List.mem_map_of_mem hd))⟩
    · obtain ⟨b1, b2, b3⟩ := r.frz a o h
      refine ⟨hk₁ _ _ b1, Nat.ne_of_lt (Heap.lt_size b1), fun c hc q => ?_⟩
      obtain ⟨d, hd, q1, _⟩ := rk_mem hc
      exact b3 d (ftm d hd).1 (q1 ▸ q)
    · obtain ⟨b1, b2, b3⟩ := r.frz a o h
      rcases List.mem_cons.mp q with q | q
      · exact b2 q
      · rcases List.mem_append.mp q with q | q
        · exact r.ban a o h q
        · obtain ⟨c, hc, e⟩ := List.mem_map.mp (List.mem_filter.mp q).1
          exact b3 c hc e
    · refine (?_ : ((rk 0 ft).map (·.a)).Nodup)
      refine rg (rk_map ..) ?_
      exact fts_nodup r.nd hft hfk
    · obtain ⟨h1, h2⟩ := onow p hp
      refine ⟨Nat.ne_of_lt (Heap.lt_size h2), fun c hc q => ?_, p.2.slots, hk₁ _ _ h2⟩
      obtain ⟨d, hd, q1, _⟩ := rk_mem hc
      exact r.notOut (ftm d hd).1 (by refine rl q1 (rg q ?_); exact h1)

noncomputable def CuP (C : Cx) (R : Frz) (Q : SV → St → Prop) (r : Result) (s' : Shared) : Prop := match r with
  | .ok f => match f with
    | .ret v => VP C R Q v s'
    | _ => False
  | .error _ => False
noncomputable def Cu (C : Cx) (A : Around) (f : SV) (args : List SV) (kw : List (Str × SV)) (st : St) (Q : SV → St → Prop) : Prop :=
  ∀ R s v ws ks, Rel C R st s → VR R f v → VRs R args ws → VRs R (kw.map (·.2)) ks →
    codeAny C.M A (.call v ⟨ws, (kw.map (·.1)).zip ks⟩) (CuP C R Q) s
/-- the arguments are bound -/
noncomputable def Binds (C : Cx) (st : St) (fd : FuncData) (args : List SV) (kw : List (Str × SV)) (loc : List (Str × SV)) : Prop :=
  ∀ R s ws ks, Rel C R st s → VRs R args ws → VRs R (kw.map (·.2)) ks → ∀ (A : Around) (Q : List (Str × Value) → Shared → Prop) (E : Value → Shared → Prop),
    (∀ R' s' vals, Grows R R' → Rel C R' st s' → VRs R' (loc.map (·.2)) vals → Q ((loc.map (·.1)).zip vals) s') → wpAny C.M A (bindArgs fd ⟨ws, (kw.map (·.1)).zip ks⟩) Q E s
theorem Binds.of {C : Cx} {st : St} {fd : FuncData} {args : List SV} {kw loc : List (Str × SV)}
    (h : ∀ R s ws ks, Rel C R st s → VRs R args ws → VRs R (kw.map (·.2)) ks → ∃ vals, VRs R (loc.map (·.2)) vals ∧ BindsTo s fd ⟨ws, (kw.map (·.1)).zip ks⟩ ((loc.map (·.1)).zip vals)) : Binds C st fd args kw loc := by
  intro R s ws ks r hw hk A Q E hq
  obtain ⟨vals, hv, hb⟩ := h R s ws ks r hw hk
  exact hb _ _ _ _ (hq R s vals .rfl r hv)
theorem Cu.userB {C : Cx} (ok : C.Ok) {A0 : Around} (hAh : SameA A0 C.A) {st : St} {Q : SV → St → Prop} {a : Addr} {args : List SV} {kw : List (Str × SV)} {fk : List Nat} {ft : List Cell} {loc : List (Str × SV)}
    {oc : Value} {od : Option Addr} {osl : Array (Option Value)} {name qual : Str} {params : Arguments} {body : List Stmt} {scope : Scope} {dV kV doc pm cdv ct : Value} {an : Option Addr}
    (ho : C.K.lookup a = some ⟨oc, od, .func (fnOf name qual params body scope dV kV doc pm an cdv ct), osl⟩) (hcd : codeIn C.K cdv qual = true) (hroom : A0.depth + 1 < 900)
    (hfk : fk.Nodup) (hft : fts st.mem fk = some ft) (hbind : Binds C st (fnOf name qual params body scope dV kV doc pm an cdv ct) args kw loc)
    (hloc : (loc.all fun x => decide (scope.names.lookup x.1 = some .local)) = true) (hnd : (loc.map (·.1)).Nodup) (hcell : ∀ x ∈ scope.names, x.2 ≠ .cell)
    (hbody : ∀ A g L ban outs, (callee C A g L qual scope a cdv [] [] ban outs).Ok → A.depth = A0.depth + 1 →
      Es (callee C A g L qual scope a cdv [] [] ban outs) (execs body (callee C A g L qual scope a cdv [] [] ban outs).env) ⟨loc, rk 0 ft, ft.length⟩ (Fin C st fk ft Q))
    (hco : scope.isCoroutine = false := by rfl) (hgen : scope.isGenerator = false := by rfl) (hk : scope.kind = .function := by rfl) : Cu C A0 (.con (.ref a)) args kw st Q := by
  intro R s v ws ks r hf hw hkw
  (first | obtain ⟨_, rfl⟩ := VR.str' hf | obtain ⟨_, rfl⟩ := VR.int' hf | obtain rfl := VR.ref' hf | obtain rfl := VR.con' hf | obtain ⟨_, rfl, _⟩ := VR.bm' hf | obtain ⟨rfl, _⟩ := VR.fz' hf | obtain rfl := VR.bool' hf | obtain rfl := VR.none' hf | cases hf)
  obtain ⟨m, F, hl⟩ := r.fr
  have X := ok.X.keeps F.keep
  refine codeAny_call_function (fd := fnOf name qual params body scope dV kV doc pm an cdv ct) (body := body) (by have : recursionLimit = 1000 := rfl; lia) (X _ _ ho) rfl hco hgen rfl (codeRec_of X hcd) ?_
  refine hbind R s ws ks r hw hkw _ _ _ fun R1 s1 vals g1 r1 hv => ?_
  obtain ⟨m1, F1, _⟩ := r1.fr
  refine wpAny_newFunctionEnv hcell (fun y hy => ?_) (fun h₁ hns hsb => ?_) hk
  · have h1 := (List.of_mem_zip (a := y.1) (b := y.2) hy).1
    obtain ⟨z, hz, e⟩ := List.mem_map.mp h1
    refine rl e ?_
    exact of_decide_eq_true (List.all_eq_true.mp hloc z hz)
  have hk₁ : ∀ b o, s1.heap.get? b = some o → h₁.get? b = some o := fun b o e => hsb.extBut b o (Nat.ne_of_lt (Heap.lt_size e)) (Heap.get?_push_of_some _ e)
  refine ⟨(ok.lim.keeps F1.keep).fresh _ hsb, codeAny_func ?_⟩
  obtain ⟨ok', r'⟩ := enter (A := A0.deeper (envX qual scope s1.heap.objs.size a cdv [])) (name := qual) (scope := scope) (fa := a) (cd := cdv) (n := ft.length) (tk := s1.toks + ((loc.map (·.1)).zip vals).length) ok r1 hfk hft (by refine (?_ : A0.depth + 1 < 900); exact hroom) hAh.hh (by refine (?_ : A0.frames.map _ = _); exact rg hAh.fr rfl) hk hns hk₁ hv hnd
  refine wpAny_mono (hbody _ _ _ _ _ ok' rfl R1 _ r') ?_ fun _ _ e => e.elim
  rintro f s2 ⟨R2, g2, sf, st2, r2, hf, nw, ft2, v, q1, q2, q3, q4⟩
  refine ⟨R2, g1.trans g2, v, _, back ok r1 g2 r2 rfl rfl hfk hft rfl (fun b hb => ?_) q1 q2, ?_, q4⟩
  · rcases hb with rfl | hb | ⟨h1, h2⟩
    · exact .head _
    · exact .tail _ (List.mem_append_left _ hb)
    · refine .tail _ (List.mem_append_right _ (List.mem_filter.mpr ⟨h1, ?_⟩))
      simpa using h2
  · refine q3 R2 _ ?_
    induction hf with
    | ret h => exact h
    | _ => exact .none
theorem Cu.user {C : Cx} (ok : C.Ok) {A0 : Around} (hAd : A0.depth = C.A.depth) (hAh : SameA A0 C.A) {st : St} {Q : SV → St → Prop} {a : Addr} {args : List SV} {kw : List (Str × SV)} {fk : List Nat} {ft : List Cell} {loc : List (Str × SV)}
    {oc : Value} {od : Option Addr} {osl : Array (Option Value)} {name qual : Str} {params : Arguments} {body : List Stmt} {scope : Scope} {dV kV doc pm cdv ct : Value} {an : Option Addr}
    (ho : C.K.lookup a = some ⟨oc, od, .func (fnOf name qual params body scope dV kV doc pm an cdv ct), osl⟩) (hcd : codeIn C.K cdv qual = true) (hroom : C.A.depth + 1 < 900)
    (hfk : fk.Nodup) (hft : fts st.mem fk = some ft)
    (hbind : ∀ R s ws ks, Rel C R st s → VRs R args ws → VRs R (kw.map (·.2)) ks → ∃ vals, VRs R (loc.map (·.2)) vals ∧ BindsTo s (fnOf name qual params body scope dV kV doc pm an cdv ct) ⟨ws, (kw.map (·.1)).zip ks⟩ ((loc.map (·.1)).zip vals))
    (hloc : (loc.all fun x => decide (scope.names.lookup x.1 = some .local)) = true) (hnd : (loc.map (·.1)).Nodup) (hcell : ∀ x ∈ scope.names, x.2 ≠ .cell)
    (hbody : ∀ A g L ban outs, (callee C A g L qual scope a cdv [] [] ban outs).Ok → A.depth = C.A.depth + 1 →
      Es (callee C A g L qual scope a cdv [] [] ban outs) (execs body (callee C A g L qual scope a cdv [] [] ban outs).env) ⟨loc, rk 0 ft, ft.length⟩ (Fin C st fk ft Q))
    (hco : scope.isCoroutine = false := by rfl) (hgen : scope.isGenerator = false := by rfl) (hk : scope.kind = .function := by rfl) : Cu C A0 (.con (.ref a)) args kw st Q :=
  Cu.userB ok hAh ho hcd (by refine rg hAd ?_; exact hroom) hfk hft (Binds.of hbind) hloc hnd hcell (fun A g L ban outs ok' hA => hbody A g L ban outs ok' (by exact rg hA (rg hAd rfl))) hco hgen hk
theorem Cu.cl {C : Cx} {f : SV} {args : List SV} {kw : List (Str × SV)} {st : St} {Q : SV → St → Prop} (h : Cu C C.A f args kw st Q) : Cl C f args kw st Q := fun R s v ws ks r hf hw hk =>
  wpAny_call (codeAny_mono (h R s v ws ks r hf hw hk) fun r s' z => by
    induction r with
    | ok f => induction f <;> first | exact z | exact z.elim
    | error e => exact z.elim)
end Mine
end
end

section
open PySem PySem.W PySem.Calls PyProof.Rows
set_option Elab.async false
set_option maxRecDepth 100000
set_option autoImplicit false
set_option linter.unusedVariables false
set_option linter.unusedVariables false
namespace Mine
theorem slot_md_get : Slot "method_descriptor" "__get__" "method_descriptor.__get__" :=
  .of (owner := "method_descriptor") (n := "__get__") (by refine rg (typeLookup_type ..) (rg (builtinLookup_eq_fast ..) ?_); kernel_rfl) (by decide +kernel) (by decide +kernel) (by decide +kernel)
    (by first | exact .inl (by decide +kernel) | exact .inr (by decide +kernel)) (by refine rg (isSubtype_type ..) ?_; kernel_rfl)
theorem entry_md_get : entryFor table "method_descriptor.__get__" = some Builtin.«method_descriptor.__get__» := entryFor_of_tree (by kernel_rfl)
theorem args_md_get (a b c : Value) : argsOk "method_descriptor.__get__" ⟨[a, b, c], []⟩ := by unfold argsOk; kernel_rfl
theorem type_la : typeOf (.builtin "list.append") = pure (.type "method_descriptor") := by refine (?_ : builtinType _ = _); refine rg builtinType_eq_fast ?_; kernel_rfl
theorem lk_la : typeLookup (.type "list") "append" = pure (some (.builtin "list.append")) := by refine rg (typeLookup_type ..) (rg (builtinLookup_eq_fast ..) ?_); kernel_rfl
theorem lk_md_set : typeLookup (.type "method_descriptor") "__set__" = pure none := by refine rg (typeLookup_type ..) (rg (builtinLookup_eq_fast ..) ?_); kernel_rfl
theorem lk_md_del : typeLookup (.type "method_descriptor") "__delete__" = pure none := by refine rg (typeLookup_type ..) (rg (builtinLookup_eq_fast ..) ?_); kernel_rfl
theorem toldNot : Manifest.toldItsClass.contains "list.append" = false := by decide +kernel
noncomputable abbrev bmO' (a : Addr) (id : String) : Obj := { cls := .type "builtin_function_or_method", data := .fields #[.builtin id, .ref a] }

theorem own_la : ".".intercalate ("list.append".cutAt '.').dropLast = "list" := by first | decide +kernel | kernel_rfl
theorem sub_la : isSubtype (.type "list") (.type (".".intercalate ("list.append".cutAt '.').dropLast)) = pure true := by rw [own_la, isSubtype_type]; kernel_rfl
section
variable {prog : Program} {w : World} {M : Model} {A : Around} {E : Value → Shared → Prop} {s : Shared} {a : Addr} {o : Obj}
theorem run_md {P : PySem.Fin → Shared → Prop} (hx : s.heap.get? a = some o) (hc : o.cls = .type "list") (h : P (.done (.ret (.ref s.heap.objs.size))) { s with heap := s.heap.push (bmO' a "list.append") }) :
    wpAny M A (Builtin.«method_descriptor.__get__» ⟨[.builtin "list.append", .ref a, .type "list"], []⟩) P E s := by
  have hT : s.TypeIs (.ref a) "list" := ⟨_, hx, hc⟩
  have f8 := sub_la
  unfold Builtin.«method_descriptor.__get__»
  refine wpAny_bind (wpAny_of_eq (a := (.builtin "list.append", some (.ref a), some (.type "list"))) (by first | rfl | kernel_rfl) ?_)
  simp only [toldNot]
  repeat (any_goals (first | assumption | wp_step))
theorem get_append {Q : Value → Shared → Prop} {e : Bool} {vs : List Value} {n : Nat} (hx : s.heap.get? a = some { cls := .type "list", data := .seq vs.toArray n })
    (h : Q (.ref s.heap.objs.size) { s with heap := s.heap.push (bmO' a "list.append"), toks := s.toks + 1 }) : wpAny (model prog w) A (getAttr (.ref a) "append" e) Q E s := by
  obtain ⟨hh, g, d, t, os⟩ := s
  have hT : (⟨hh, g, d, t + 1, os⟩ : Shared).TypeIs (.ref a) "list" := ⟨_, hx, rfl⟩
  have hTb : (⟨hh, g, d, t + 1, os⟩ : Shared).TypeIs (.builtin "list.append") "method_descriptor" := type_la
  have f2 := F.slot_list_getattribute.lookup
  have f3 := F.slot_list_getattribute.bind (.ref a)
  have f4 := lk_la
  have f5 := type_la
  have f6 := slot_md_get.lookup
  have f7 := lk_md_set
  have f8 := lk_md_del
  unfold getAttr
  refine wpAny_bind (wpAny_mkText ?_)
  unfold getAttrBy getAttrByItsOwn hookBefore callGetattribute boundAndCalled
  repeat (any_goals (first | assumption | wp_step))
  refine rg (if_neg (by induction e <;> decide)) ?_
  refine rg f3 ?_
  refine wpAny_bind (wpAny_pure ?_)
  refine wpAny_call_entry F.slot_list_getattribute hT F.entry_list_ga ?_ (F.args_list_getattribute_2 _ _)
  repeat (any_goals (first | assumption | wp_step))
  refine codeAny_call_builtin slot_md_get.plain entry_md_get (slot_md_get.check _ _ _ _ _ _ _ _ hTb (args_md_get _ _ _) (run_md (o := { cls := .type "list", data := .seq vs.toArray n }) hx rfl ?_))
  exact wpAny_pure ⟨_, rfl, wpAny_pure h⟩
theorem quiet_la {as : Args} : (Code.builtin "list.append" as).quiet = true := Code.quiet_builtin _ (by decide +kernel)
theorem kind_la : builtinKind "list.append" = some .method := by decide +kernel
theorem sub_lm : isSubtype (.type "list") (.type "module") = pure false := by refine rg (isSubtype_type ..) ?_; kernel_rfl
theorem call_append {Q : Value → Shared → Prop} {b : Addr} {x : Value} {vs : List Value} {n : Nat} (hx : s.heap.get? a = some { cls := .type "list", data := .seq vs.toArray n }) (hb : s.heap.get? b = some (bmO' a "list.append"))
    (h : ∀ h', Heap.SameBut a s.heap h' → h'.get? a = some { cls := .type "list", data := .seq (vs ++ [x]).toArray (n + 1) } → Q .none { s with heap := h' }) (hsz : vs.length ≤ sizeLine) :
    wpAny (model prog w) A (call (.ref b) [x]) Q E s := by
  have hT : s.TypeIs (.ref a) "list" := ⟨_, hx, rfl⟩
  refine wpAny_call (codeAny_of_tree ?_)
  refine (?_ : wpAny _ A.in1 (callAny (.ref b) ⟨[x], []⟩) _ _ s)
  simp only [callAny]
  refine wpAny_bind (wpAny_load hb ?_)
  simp only [show (Value.type "builtin_function_or_method" == Value.type "method" || Value.type "builtin_function_or_method" == Value.type "builtin_function_or_method" || Value.type "builtin_function_or_method" == Value.type "method-wrapper") = true by decide, if_true]
  unfold checkBoundCall
  repeat (any_goals (first | assumption | wp_step))
  refine wpAny_of_eq (a := false) sub_lm ?_
  refine rg (if_neg (by decide +kernel)) ?_
  repeat (any_goals (first | assumption | wp_step))
  refine ⟨quiet_la, codeAny_builtin entry_list_append ?_⟩
  refine (?_ : wpAny _ _ (updateSeq a (·.push x) >>= fun _ => ret .none) _ _ s)
  refine wpAny_bind ?_
  refine wpAny_updateSeq (hz := by simpa using hsz) hx rfl (wpAny_pure (h _ (Heap.SameBut.update ..) ?_))
  rw [Heap.get?_update_self _ hx (by rw [mapSeq_push]; rfl), mapSeq_push]
  simp
end
end Mine
end

section
open PySem PySem.W PySem.Calls PyProof.Rows
noncomputable section
set_option Elab.async false
set_option maxRecDepth 100000
set_option autoImplicit false
set_option genSizeOf false
set_option genInjectivity false
set_option linter.unusedVariables false
set_option linter.unusedVariables false
namespace Mine
section
variable {C : Cx} {st : St} {Q : SV → St → Prop}
theorem Ga.append (ok : C.Ok) {k : Nat} {a : Addr} (h : withList st k a fun _ => Q (.bm k a "list.append") st) : Ga C (.ref k a) "append" st Q := by
  intro R s v r hv; (first | obtain ⟨_, rfl⟩ := VR.str' hv | obtain ⟨_, rfl⟩ := VR.int' hv | obtain rfl := VR.ref' hv | obtain rfl := VR.con' hv | obtain ⟨_, rfl, _⟩ := VR.bm' hv | obtain ⟨rfl, _⟩ := VR.fz' hv | obtain rfl := VR.bool' hv | obtain rfl := VR.none' hv | cases hv)
  obtain ⟨xs, vs, n, e1, e2, e3, h⟩ := r.list h
  refine get_append e3 ?_
  have r' : Rel C R st { s with heap := s.heap.push (bmO' a "list.append"), toks := s.toks + 1 } := r.keep (fun b o e => Heap.get?_push_of_some _ e) rfl rfl
  have g2 : Grows R (fun b x => R b x ∨ (b = s.heap.objs.size ∧ x = bmO' a "list.append")) := fun _ _ h => Or.inl h
  exact ⟨_, g2, _, st, r.freeze ok r' (Nat.le_refl _) (Heap.get?_push_size _ rfl), .bm (.inr ⟨rfl, rfl⟩), h⟩
theorem Cl.bappend (ok : C.Ok) {k : Nat} {a : Addr} {x : SV} (h : withList st k a fun xs => xs.length ≤ szB ∧ Q .none { st with mem := mset st.mem k (.list (xs ++ [x])) }) : Cl C (.bm k a "list.append") [x] [] st Q := by
  intro R s v ws ks r hv hw hk
  obtain ⟨w, t, rfl, h1, h2⟩ := hw.uncons
  have := h2.unnil; subst this
  have := hk.unnil; subst this
  cases hv with
  | bm hb =>
    obtain ⟨xs, vs, n, e1, e2, e3, h3, h4⟩ := r.list h
    refine call_append e3 (r.frz _ _ hb).1 (fun h' hs hg => ?_) (e2.len ▸ Nat.le_trans h3 szB_line)
    exact ⟨R, .rfl, _, _, r.put (s' := { s with heap := h' }) e1 hs hg (.list (e2.append (.cons h1 .nil))) rfl rfl, .none, h4⟩
theorem Cl.lappend (ok : C.Ok) {k : Nat} {a : Addr} {x : SV} (h : withList st k a fun xs => xs.length ≤ szB ∧ Q .none { st with mem := mset st.mem k (.list (xs ++ [x])) }) : Cl C (.con (.builtin "list.append")) [.ref k a, x] [] st Q := by
  intro R s v ws ks r hv hw hk
  obtain ⟨w0, t, rfl, h0, hw⟩ := hw.uncons
  obtain ⟨w, t, rfl, h1, h2⟩ := hw.uncons
  have := h2.unnil; subst this
  have := hk.unnil; subst this
  (first | obtain ⟨_, rfl⟩ := VR.str' hv | obtain ⟨_, rfl⟩ := VR.int' hv | obtain rfl := VR.ref' hv | obtain rfl := VR.con' hv | obtain ⟨_, rfl, _⟩ := VR.bm' hv | obtain ⟨rfl, _⟩ := VR.fz' hv | obtain rfl := VR.bool' hv | obtain rfl := VR.none' hv | cases hv); (first | obtain ⟨_, rfl⟩ := VR.str' h0 | obtain ⟨_, rfl⟩ := VR.int' h0 | obtain rfl := VR.ref' h0 | obtain rfl := VR.con' h0 | obtain ⟨_, rfl, _⟩ := VR.bm' h0 | obtain ⟨rfl, _⟩ := VR.fz' h0 | obtain rfl := VR.bool' h0 | obtain rfl := VR.none' h0 | cases h0)
  obtain ⟨xs, vs, n, e1, e2, e3, h3, h4⟩ := r.list h
  refine append_at e3 (fun h' hs hg => ?_) (by simp only [List.size_toArray]; exact e2.len ▸ Nat.le_trans h3 szB_line)
  refine ⟨R, .rfl, _, _, r.put (s' := { s with heap := h' }) e1 hs (hg.trans ?_) (.list (n := n + 1) (e2.append (.cons h1 .nil))) rfl rfl, .none, h4⟩
  simp
theorem Me.append {k : Nat} {a : Addr} {Q : SV → List SV → St → Prop} (h : withList st k a fun _ => Q (.con (.builtin "list.append")) [.ref k a] st) : Me C (.ref k a) "append" st Q := by
  intro R s v pl r hv; (first | obtain ⟨_, rfl⟩ := VR.str' hv | obtain ⟨_, rfl⟩ := VR.int' hv | obtain rfl := VR.ref' hv | obtain rfl := VR.con' hv | obtain ⟨_, rfl, _⟩ := VR.bm' hv | obtain ⟨rfl, _⟩ := VR.fz' hv | obtain rfl := VR.bool' hv | obtain rfl := VR.none' hv | cases hv)
  obtain ⟨xs, vs, n, e1, e2, e3, h⟩ := r.list h
  exact getMethod_list_append e3 rfl rfl ⟨R, .rfl, _, _, st, r, .con, .cons .ref .nil, h⟩
theorem Cl.len_str {c : Bool} {x : List Nat} (hx : x.length ≤ szB) (h : Q (.int c x.length) st) : Cl C (.con (.builtin "len")) [.str c x] [] st Q := by
  intro R s v ws ks r hv hw hk
  obtain ⟨w, t, rfl, h1, h2⟩ := hw.uncons
  have := h2.unnil; subst this
  have := hk.unnil; subst this
  (first | obtain ⟨_, rfl⟩ := VR.str' hv | obtain ⟨_, rfl⟩ := VR.int' hv | obtain rfl := VR.ref' hv | obtain rfl := VR.con' hv | obtain ⟨_, rfl, _⟩ := VR.bm' hv | obtain ⟨rfl, _⟩ := VR.fz' hv | obtain rfl := VR.bool' hv | obtain rfl := VR.none' hv | cases hv); (first | obtain ⟨_, rfl⟩ := VR.str' h1 | obtain ⟨_, rfl⟩ := VR.int' h1 | obtain rfl := VR.ref' h1 | obtain rfl := VR.con' h1 | obtain ⟨_, rfl, _⟩ := VR.bm' h1 | obtain ⟨rfl, _⟩ := VR.fz' h1 | obtain rfl := VR.bool' h1 | obtain rfl := VR.none' h1 | cases h1)
  refine PyProof.Rows.len_str (by refine rg (str_len ..) ?_; unfold szB at hx; lia) ?_
  refine rg (str_len ..) ?_
  exact ⟨R, .rfl, _, st, r.toks _, .int, h⟩
theorem Cl.len_list {k : Nat} {a : Addr} (h : withList st k a fun xs => xs.length ≤ szB ∧ Q (.int false xs.length) st) : Cl C (.con (.builtin "len")) [.ref k a] [] st Q := by
  intro R s v ws ks r hv hw hk
  obtain ⟨w, t, rfl, h1, h2⟩ := hw.uncons
  have := h2.unnil; subst this
  have := hk.unnil; subst this
  (first | obtain ⟨_, rfl⟩ := VR.str' hv | obtain ⟨_, rfl⟩ := VR.int' hv | obtain rfl := VR.ref' hv | obtain rfl := VR.con' hv | obtain ⟨_, rfl, _⟩ := VR.bm' hv | obtain ⟨rfl, _⟩ := VR.fz' hv | obtain rfl := VR.bool' hv | obtain rfl := VR.none' hv | cases hv); (first | obtain ⟨_, rfl⟩ := VR.str' h1 | obtain ⟨_, rfl⟩ := VR.int' h1 | obtain rfl := VR.ref' h1 | obtain rfl := VR.con' h1 | obtain ⟨_, rfl, _⟩ := VR.bm' h1 | obtain ⟨rfl, _⟩ := VR.fz' h1 | obtain rfl := VR.bool' h1 | obtain rfl := VR.none' h1 | cases h1)
  obtain ⟨xs, vs, n, e1, e2, e3, h3, h4⟩ := r.list h
  have hl := e2.len
  refine call_len_list (isList_of e3) (by simp only [List.size_toArray]; unfold szB at h3; lia) ?_
  refine ⟨R, .rfl, .int false xs.length, st, r.toks _, ?_, h4⟩
  refine rg hl ?_; simp only [List.size_toArray]; exact .int

inductive Strs : List SV → List (List Nat) → Prop
  | nil : Strs [] []
  | cons {c y xs ys} : Strs xs ys → Strs (.str c y :: xs) (y :: ys)
theorem Strs.map (c : Bool) : ∀ l : List (List Nat), Strs (l.map (.str c)) l
  | [] => .nil
  | _ :: r => .cons (Strs.map c r)
theorem Strs.append {xs ys : List SV} {l m : List (List Nat)} (h : Strs xs l) (h' : Strs ys m) : Strs (xs ++ ys) (l ++ m) := by
  induction h with
  | nil => exact h'
  | cons _ ih => exact .cons ih
theorem Strs.are {R : Frz} {xs : List SV} {l : List (List Nat)} (h : Strs xs l) : ∀ {vs : List Value}, VRs R xs vs → StrsAre vs (l.map fun x => (⟨x.toArray⟩ : Str)) := by
  induction h with
  | nil => intro vs hv; refine rg hv.unnil ?_; exact .nil
  | cons _ ih =>
    intro vs hv
    obtain ⟨v, t, rfl, h1, h2⟩ := hv.uncons
    cases h1
    exact .cons _ _ (ih h2)
noncomputable def glueF (sep : List Nat) : List Nat → List (List Nat) → List Nat
  | acc, [] => acc
  | acc, x :: r => glueF sep (acc ++ sep ++ x) r
noncomputable def glue (sep : List Nat) : List (List Nat) → List Nat
  | [] => []
  | x :: r => glueF sep x r
theorem glueF_ok (sep : List Nat) : ∀ (l : List (List Nat)) (acc : List Nat), (l.map fun x => (⟨x.toArray⟩ : Str)).foldl (fun acc p => acc ++ sep.toArray ++ p.cps) acc.toArray = (glueF sep acc l).toArray
  | [], acc => rfl
  | x :: r, acc => by
    refine rg List.map_cons (rg List.foldl_cons ?_)
    have : acc.toArray ++ sep.toArray ++ (⟨x.toArray⟩ : Str).cps = (acc ++ sep ++ x).toArray := by simp
    refine rg this ?_
    exact glueF_ok sep r _
theorem glue_ok (sep : List Nat) (l : List (List Nat)) : Txt.join ⟨sep.toArray⟩ (l.map fun x => (⟨x.toArray⟩ : Str)) = ⟨(glue sep l).toArray⟩ := by
  induction l with
  | nil => rfl
  | cons x r => exact congrArg Str.mk (glueF_ok sep r x)
theorem glueF_eq (sep acc : List Nat) (l : List (List Nat)) : glueF sep acc l = acc ++ (l.map (sep ++ ·)).flatten := by
  induction l generalizing acc with
  | nil => simp [glueF]
  | cons x r ih => rw [glueF]; refine rg (ih ..) ?_; simp
noncomputable def total (l : List (List Nat)) : Nat := (l.map (·.length)).sum
theorem Me.join {c : Bool} {x : List Nat} {Q : SV → List SV → St → Prop} (h : Q (.con (.builtin "str.join")) [.str c x] st) : Me C (.str c x) "join" st Q := by
  intro R s v pl r hv; (first | obtain ⟨_, rfl⟩ := VR.str' hv | obtain ⟨_, rfl⟩ := VR.int' hv | obtain rfl := VR.ref' hv | obtain rfl := VR.con' hv | obtain ⟨_, rfl, _⟩ := VR.bm' hv | obtain ⟨rfl, _⟩ := VR.fz' hv | obtain rfl := VR.bool' hv | obtain rfl := VR.none' hv | cases hv)
  exact getMethod_builtin (typeIs_str _ _ _) F.plainAttrs_str F.slot_str_join F.type_str_join (fun a e => nomatch e) ⟨R, .rfl, _, _, st, r, .con, .cons .str .nil, h⟩
theorem Cl.join {c : Bool} {x : List Nat} {k : Nat} {a : Addr} {l : List (List Nat)} (h : withList st k a fun xs => Strs xs l ∧ total l + l.length * x.length ≤ szB ∧ Q (.str false (glue x l)) st) : Cl C (.con (.builtin "str.join")) [.str c x, .ref k a] [] st Q := by
  intro R s v ws ks r hv hw hk
  obtain ⟨w0, t, rfl, h0, hw⟩ := hw.uncons
  obtain ⟨w, t, rfl, h1, h2⟩ := hw.uncons
  have := h2.unnil; subst this
  have := hk.unnil; subst this
  (first | obtain ⟨_, rfl⟩ := VR.str' hv | obtain ⟨_, rfl⟩ := VR.int' hv | obtain rfl := VR.ref' hv | obtain rfl := VR.con' hv | obtain ⟨_, rfl, _⟩ := VR.bm' hv | obtain ⟨rfl, _⟩ := VR.fz' hv | obtain rfl := VR.bool' hv | obtain rfl := VR.none' hv | cases hv); (first | obtain ⟨_, rfl⟩ := VR.str' h0 | obtain ⟨_, rfl⟩ := VR.int' h0 | obtain rfl := VR.ref' h0 | obtain rfl := VR.con' h0 | obtain ⟨_, rfl, _⟩ := VR.bm' h0 | obtain ⟨rfl, _⟩ := VR.fz' h0 | obtain rfl := VR.bool' h0 | obtain rfl := VR.none' h0 | cases h0); (first | obtain ⟨_, rfl⟩ := VR.str' h1 | obtain ⟨_, rfl⟩ := VR.int' h1 | obtain rfl := VR.ref' h1 | obtain rfl := VR.con' h1 | obtain ⟨_, rfl, _⟩ := VR.bm' h1 | obtain ⟨rfl, _⟩ := VR.fz' h1 | obtain rfl := VR.bool' h1 | obtain rfl := VR.none' h1 | cases h1)
  obtain ⟨xs, vs, n, e1, e2, e3, h3, h4, h5⟩ := r.list h
  refine join_list (isList_of e3) (by simpa using h3.are e2) ?_ (fun t' tk => ?_)
  · refine rg (str_len ..) ?_
    have e : ((l.map fun x => (⟨x.toArray⟩ : Str)).map (·.length)).sum = total l := by
      unfold total
      refine rg List.map_map ?_
      congr 1
      try exact List.map_congr_left fun y _ => str_len y
    rw [e, List.length_map]
    unfold szB at h4
    lia
  · rw [glue_ok]
    exact ⟨R, .rfl, _, st, r.toks _, .str, h5⟩
end
end Mine
end
end

section
open PySem PySem.W PySem.Calls PyProof.Rows
noncomputable section
open Sem (wp)
set_option Elab.async false
set_option maxRecDepth 100000
set_option autoImplicit false
set_option linter.unusedVariables false
set_option linter.unusedVariables false
namespace Mine
theorem wp_execs_append {M : Model} {Γ : Ctx} {env : Env} {l2 : List Stmt} {Q : Flow → Pos → Shared → Prop} {E : Value → Pos → Shared → Prop} : ∀ (l1 : List Stmt) (p : Pos) (s : Shared),
    wp M Γ (execs l1 env) (fun f p' s' => match f with | .next => wp M Γ (execs l2 env) Q E p' s' | f => Q f p' s') E p s → wp M Γ (execs (l1 ++ l2) env) Q E p s
  | [], p, s, h => h
  | x :: r, p, s, h => by
    rw [execs_cons, Sem.wp_bind'] at h
    rw [List.cons_append, execs_cons, Sem.wp_bind']
    refine Sem.wp_mono M Γ _ (fun f p' s' h' => ?_) (fun _ _ _ h' => h') _ _ h
    induction f with
    | next => exact wp_execs_append r p' s' h'
    | _ => exact h'
noncomputable def cutQ (C : Cx) (P : St → Prop) (Q : SF → St → Prop) (f : SF) (st : St) : Prop := match f with
  | .next => ∃ st', Le C st st' ∧ P st'
  | .brk => Q .brk st
  | .cont => Q .cont st
  | .ret v => Q (.ret v) st
theorem Es.cut {C : Cx} (ok : C.Ok) {st : St} {l : List Stmt} {Q : SF → St → Prop} (k n : Nat) (P : St → Prop) (h1 : blkR (ev C k) (l.take n) st (cutQ C P Q)) (h2 : ∀ st', P st' → Es C (execs (l.drop n) C.env) st' Q) : Es C (execs l C.env) st Q := by
  intro R s r Γ p hΓ
  have h := blkR_ok (ev_ok ok k) _ _ _ h1 R s r Γ p hΓ
  refine rl (List.take_append_drop n l) ?_
  refine wp_execs_append _ _ _ (Sem.wp_mono _ Γ _ (fun f p' s' h' => ?_) (fun _ _ _ h' => h') _ _ h)
  obtain ⟨R1, g1, sf, st1, r1, hf, q⟩ := h'
  induction hf with
  | next =>
    obtain ⟨st', le, hp⟩ := q
    exact Sem.wp_mono _ Γ _ (fun f p2 s2 q => q.grows g1) (fun _ _ _ h' => h') _ _ (h2 st' hp R1 s' (le R1 s' r1) Γ p' hΓ)
  | brk => exact ⟨R1, g1, _, st1, r1, .brk, q⟩
  | cont => exact ⟨R1, g1, _, st1, r1, .cont, q⟩
  | ret hv => exact ⟨R1, g1, _, st1, r1, .ret hv, q⟩
end Mine
end
end

section
open PySem PySem.W PySem.Calls PyProof.Rows
noncomputable section
set_option Elab.async false
set_option maxRecDepth 100000
set_option autoImplicit false
set_option linter.unusedVariables false
namespace Mine

theorem isStr_str (x name : Str) (t : Tok) : Value.isStr (.str x t) name = eqS x name := by
  refine (?_ : (x == name) = _)
  cases h : eqS x name with
  | true => refine rg (eqS_iff.mp h) ?_; simp
  | false => simpa using eqS_ne h

theorem getL_some {R : Frz} {name : Str} : ∀ {as : List (Str × SV)} {es : List DictEntry}, as.length = es.length →
    (∀ (i : Nat) x e, as[i]? = some x → es[i]? = some e → (∃ t, DictEntry.key e = .str x.1 t) ∧ VR R x.2 e.val) → ∀ {sv : SV}, lk as name = some sv → ∃ v, getL name es = some (some v) ∧ VR R sv v
  | [], es, hl, he, sv, h => by exact nsE h
  | (y, u) :: as, [], hl, he, sv, h => by simp at hl
  | (y, u) :: as, e :: es, hl, he, sv, h => by
    obtain ⟨⟨t, hk⟩, hv⟩ := he 0 (y, u) e rfl rfl
    rw [lk_cons] at h
    unfold getL
    refine rg (List.find?_cons) ?_
    have : e.key.isStr name = eqS y name := by refine rg hk ?_; exact isStr_str y name t
    refine rg this ?_
    cases q : eqS y name with
    | true => replace h := q ▸ h; obtain rfl := Option.some.inj h; exact ⟨_, rfl, hv⟩
    | false =>
      replace h := q ▸ h
      obtain ⟨v, h1, h2⟩ := getL_some (as := as) (es := es) (by simpa using hl) (fun i x e a b => he (i + 1) x e (by simpa using a) (by simpa using b)) h
      refine ⟨v, ?_, h2⟩
      dsimp only
      unfold getL at h1
      cases z : es.find? (fun x => x.key.isStr name) with
      | some w => replace h1 := z ▸ h1; exact h1
      | none => replace h1 := z ▸ h1; dsimp only at h1; split at h1 <;> cases h1
theorem getL_none {R : Frz} {name : Str} {as : List (Str × SV)} {es : List DictEntry} (hl : as.length = es.length)
    (he : ∀ (i : Nat) x e, as[i]? = some x → es[i]? = some e → (∃ t, DictEntry.key e = .str x.1 t) ∧ VR R x.2 e.val) (h : lk as name = none) : getL name es = some none := by
  have h1 : es.find? (fun x => x.key.isStr name) = none := by
    induction as generalizing es with
    | nil => induction es with
      | nil => rfl
      | cons => simp at hl
    | cons p as ih =>
      obtain ⟨y, u⟩ := p
      induction es with
      | nil => simp at hl
      | cons e es =>
        obtain ⟨⟨t, hk⟩, hv⟩ := he 0 (y, u) e rfl rfl
        rw [lk_cons] at h
        refine rg (List.find?_cons) ?_
        have : e.key.isStr name = eqS y name := by refine rg hk ?_; exact isStr_str y name t
        refine rg this ?_
        cases q : eqS y name with
        | true => replace h := q ▸ h; exact snE h
        | false => replace h := q ▸ h; exact ih (by simpa using hl) (fun i x e a b => he (i + 1) x e (by simpa using a) (by simpa using b)) h
  have h2 : es.any (·.refKey) = false := by
    rw [List.any_eq_false]
    intro e hm
    obtain ⟨i, hi, rfl⟩ := List.getElem_of_mem hm
    have hi' : i < as.length := hl ▸ hi
    obtain ⟨⟨t, hk⟩, _⟩ := he i as[i] es[i] (List.getElem?_eq_getElem hi') (List.getElem?_eq_getElem hi)
    unfold DictEntry.refKey
    refine rg hk ?_; simp
  unfold getL
  refine rg h1 ?_
  dsimp only
  refine rg h2 ?_; rfl

/-- the object under a key -/
noncomputable def withInst (st : St) (k : Nat) (a : Addr) (P : Addr → List (Str × SV) → Prop) : Prop :=
  match mlk st.mem k with
  | some ⟨_, _, .attrs a' Cl as⟩ => a' = a ∧ P Cl as
  | _ => False
inductive InstOf (R : Frz) (st : St) (s : Shared) (k : Nat) (a : Addr) (P : Addr → List (Str × SV) → Prop) : Prop
  | mk (Cl : Addr) (as : List (Str × SV)) (dx : Addr) (sl : Array (Option Value)) (es : List DictEntry) (n : Nat) (e1 : mlk st.mem k = some ⟨k, dx, .attrs a Cl as⟩) (e2 : R a ⟨.ref Cl, some dx, .plain, sl⟩) (e3 : s.heap.get? dx = some (dictOf es n))
    (e4 : as.length = es.length) (e5 : ∀ (i : Nat) x e, as[i]? = some x → es[i]? = some e → (∃ t, DictEntry.key e = .str x.1 t) ∧ VR R x.2 e.val) (q : P Cl as) : InstOf R st s k a P
theorem Rel.inst {C : Cx} {R : Frz} {st : St} {s : Shared} {k : Nat} {a : Addr} {P : Addr → List (Str × SV) → Prop} (r : Rel C R st s) (h : withInst st k a P) :
    InstOf R st s k a P := by
  unfold withInst at h
  cases e : mlk st.mem k with
  | none => replace h := e ▸ h; exact h.elim
  | some c =>
    replace h := e ▸ h
    obtain ⟨k', dx, so⟩ := c
    induction so with
    | attrs a' Cl as =>
      obtain ⟨rfl, hp⟩ := h
      obtain ⟨o, h1, h2, h3, h4⟩ := r.mem _ (mlk_mem e)
      obtain rfl : k' = k := mlk_key e
      cases h1 with
      | attrs h hl he => exact ⟨Cl, as, dx, _, _, _, e, h, h2, hl, he, hp⟩
    | _ => exact False.elim h
noncomputable def handed : SV → Bool
  | .con _ => false
  | .any => false
  | _ => true
theorem handed_ok {R : Frz} {sv : SV} {v : Value} (h : VR R sv v) (hh : handed sv = true) : handedIn v = true := by
  induction h <;> first | rfl | exact ftE hh
theorem Ga.own {C : Cx} (ok : C.Ok) {st : St} {Q : SV → St → Prop} {k : Nat} {a : Addr} {name : Str}
    (h : withInst st k a fun Cl as => (plainGet C.K Cl name = true ∧ hasDictIn C.K Cl = true ∧ ∃ attr, findIn C.K (.ref Cl) name = some attr ∧ noGet C.K attr = true) ∧
      match lk as name with | some v => handed v = true ∧ Q v st | none => False) : Ga C (.ref k a) name st Q := by
  intro R s v r hv; (first | obtain ⟨_, rfl⟩ := VR.str' hv | obtain ⟨_, rfl⟩ := VR.int' hv | obtain rfl := VR.ref' hv | obtain rfl := VR.con' hv | obtain ⟨_, rfl, _⟩ := VR.bm' hv | obtain ⟨rfl, _⟩ := VR.fz' hv | obtain rfl := VR.bool' hv | obtain rfl := VR.none' hv | cases hv)
  obtain ⟨Cl, as, dx, sl, es, n, e1, e2, e3, e4, e5, ⟨p1, p2, attr, p3, p4⟩, h⟩ := r.inst h
  split at h
  · rename_i sv hs
    obtain ⟨w, h1, h2⟩ := getL_some e4 e5 hs
    obtain ⟨m, F, hl⟩ := r.fr
    exact get_own F ok.X ⟨(r.frz _ _ e2).1, rfl, rfl, e3⟩ p1 p2 p3 p4 h1 (handed_ok h2 h.1) ⟨R, .rfl, sv, st, r.toks _, h2, h.2⟩
  · exact h.elim
end Mine
end
end

section
open PySem PySem.W PySem.Calls PyProof.Rows
noncomputable section
set_option Elab.async false
set_option maxRecDepth 100000
set_option autoImplicit false
set_option linter.unusedVariables false
namespace Mine
noncomputable abbrev EntryOk (R : Frz) (as : List (Str × SV)) (es : List DictEntry) : Prop := ∀ (i : Nat) x e, as[i]? = some x → es[i]? = some e → (∃ t, DictEntry.key e = .str x.1 t) ∧ VR R x.2 e.val
theorem putL_ok {R : Frz} {name : Str} {hsh : Int} {tk : Tok} {sv : SV} {v : Value} (hv : VR R sv v) : ∀ {as : List (Str × SV)} {es : List DictEntry}, as.length = es.length → EntryOk R as es →
    (setL as name sv).length = (putL name hsh (.str name tk) v es).length ∧ EntryOk R (setL as name sv) (putL name hsh (.str name tk) v es)
  | [], [], hl, he => ⟨rfl, fun i x e a b => by
      induction i with
      | zero => obtain rfl := Option.some.inj a; obtain rfl := Option.some.inj b; exact ⟨⟨tk, rfl⟩, hv⟩
      | succ i => exact nsE a⟩
  | [], _ :: _, hl, he => by simp at hl
  | _ :: _, [], hl, he => by simp at hl
  | (y, u) :: as, e :: es, hl, he => by
    obtain ⟨⟨t, hk⟩, hu⟩ := he 0 (y, u) e rfl rfl
    have hq : e.key.isStr name = eqS y name := by refine rg hk ?_; exact isStr_str y name t
    refine rg (setL_cons ..) ?_
    unfold putL
    refine rg hq ?_
    cases q : eqS y name with
    | true =>
      refine ⟨by simpa using hl, fun i x e' a b => ?_⟩
      induction i with
      | zero => obtain rfl := Option.some.inj a; obtain rfl := Option.some.inj b; exact ⟨⟨t, hk⟩, hv⟩
      | succ i => exact he (i + 1) x e' (by simpa using a) (by simpa using b)
    | false =>
      obtain ⟨h1, h2⟩ := putL_ok (name := name) (hsh := hsh) (tk := tk) hv (as := as) (es := es) (by simpa using hl) (fun i x e a b => he (i + 1) x e (by simpa using a) (by simpa using b))
      refine ⟨by simpa using h1, fun i x e' a b => ?_⟩
      induction i with
      | zero => obtain rfl := Option.some.inj a; obtain rfl := Option.some.inj b; exact ⟨⟨t, hk⟩, hu⟩
      | succ i => exact h2 i x e' (by simpa using a) (by simpa using b)

theorem allNews_split {C : Cx} {s : Shared} {d : Addr} {o : Obj} (h : (d, o) ∈ allNews C s) : ∃ pre post, allNews C s = pre ++ (d, o) :: post ∧ (∀ p ∈ pre, p.1 ≠ d) ∧ ∀ p ∈ post, p.1 ≠ d := by
  have nd : ∀ l : List Nat, l.Nodup → ((l.filterMap fun a => match s.heap.get? a with
    | some o => if a = C.L ∨ (C.h₀.get? a).isSome = true then none else some (a, o)
    | none => none).map (·.1)).Nodup := by
    intro l
    induction l with
    | nil => intro _; exact .nil
    | cons a l ih =>
      intro hn
      obtain ⟨h1, h2⟩ := List.nodup_cons.mp hn
      refine rg List.filterMap_cons ?_
      split
      · exact ih h2
      · rename_i p hp
        have hpa : p.1 = a := by
          split at hp
          · split at hp
            · exact nsE hp
            · obtain rfl := Option.some.inj hp; rfl
          · exact nsE hp
        refine List.nodup_cons.mpr ⟨fun q => ?_, ih h2⟩
        obtain ⟨z, hz, e⟩ := List.mem_map.mp q
        obtain ⟨b, hb, hz'⟩ := List.mem_filterMap.mp hz
        have : z.1 = b := by
          split at hz'
          · split at hz'
            · exact nsE hz'
            · obtain rfl := Option.some.inj hz'; rfl
          · exact nsE hz'
        have e : z.1 = p.1 := e
        exact h1 ((this.symm.trans (e.trans hpa)) ▸ hb)
  have n := nd _ (List.nodup_range (n := s.heap.objs.size))
  obtain ⟨pre, post, e⟩ := List.append_of_mem h
  have n' : ((allNews C s).map (·.1)).Nodup := n
  replace n' := e ▸ n'
  simp only [List.map_append, List.map_cons] at n'
  refine ⟨pre, post, e, fun p hp q => ?_, fun p hp q => ?_⟩
  · exact (List.nodup_append.mp n').2.2 p.1 (List.mem_map_of_mem hp) d (.head _) q
  · exact (List.nodup_cons.mp (List.nodup_append.mp n').2.1).1 (q ▸ List.mem_map_of_mem hp)
theorem upd_of {d : Addr} {o o' : Obj} {post : List (Addr × Obj)} (h2 : ∀ p ∈ post, p.1 ≠ d) : ∀ {pre : List (Addr × Obj)}, (∀ p ∈ pre, p.1 ≠ d) → Upd d o o' (pre ++ (d, o) :: post) (pre ++ (d, o') :: post)
  | [], _ => .head h2
  | p :: pre, h1 => .tail (h1 p (.head _)) (upd_of h2 fun q hq => h1 q (.tail _ hq))

theorem Rel.put2 {C : Cx} {R : Frz} {st : St} {s s' : Shared} {k : Nat} {c : Cell} {o : Obj} {so : SO} {m : Str → Option Value} (r : Rel C R st s) (hc : mlk st.mem k = some c)
    (hl : ∀ x v, lk st.loc x = some v → ∃ val, m x = some val ∧ VR R v val) (hF : Fr C.h₀ C.L s'.heap m)
    (hk : ∀ b ob, b ≠ c.a → b ≠ C.L → s.heap.get? b = some ob → s'.heap.get? b = some ob) (hget : s'.heap.get? c.a = some o) (hor : OR R c.a so o)
    (hg : s'.gens = s.gens) (ho : s'.os = s.os) : Rel C R { st with mem := mset st.mem k so } s' := by
  obtain ⟨o0, _, g0, hne, hn0⟩ := r.mem c (mlk_mem hc)
  refine ⟨⟨m, hF, hl⟩, fun d hd => ?_, fun b ob h => ?_, r.ban, ?_, r.cvs, hg.trans r.gens, ho.trans r.os, fun p hp => ?_⟩
  rotate_left
  rotate_left
  rotate_left
  · obtain ⟨a1, b1, sl, e⟩ := r.outs p hp
    refine ⟨a1, fun d hd => ?_, sl, hk _ _ (fun q => b1 c (mlk_mem hc) q.symm) a1 e⟩
    rcases mset_mem r.nd hc hd with ⟨q1, q2⟩ | ⟨q, ne⟩
    · refine rg q1 ?_; exact b1 c (mlk_mem hc)
    · exact b1 d q
  · rcases mset_mem r.nd hc hd with ⟨q1, q2⟩ | ⟨q, ne⟩
    · refine rg q1 (rg q2 ?_); exact ⟨o, hor, hget, hne, hn0⟩
    · obtain ⟨o', a, b, e1, e2⟩ := r.mem d q
      exact ⟨o', a, hk _ _ ne e1 b, e1, e2⟩
  · obtain ⟨x, y, z⟩ := r.frz b ob h
    refine ⟨hk _ _ (fun q => z c (mlk_mem hc) q.symm) y x, y, fun d hd => ?_⟩
    rcases mset_mem r.nd hc hd with ⟨q1, q2⟩ | ⟨q, _⟩
    · refine rg q1 ?_; exact z c (mlk_mem hc)
    · exact z d q
  · refine (?_ : ((mset st.mem k so).map (·.a)).Nodup)
    refine rg (mset_map ..) ?_; exact r.nd
theorem Sa.own {C : Cx} (ok : C.Ok) {st : St} {Q : St → Prop} {k : Nat} {a : Addr} {name : Str} {v : SV}
    (h : withInst st k a fun Cl as => (findIn C.K (.ref Cl) "__setattr__" = some (some (.builtin "object.__setattr__")) ∧ plainOver C.K Cl = true ∧ takerIn C.K Cl name = some none ∧ hasDictIn C.K Cl = true) ∧
      as.length ≤ 900 ∧ Q { st with mem := mset st.mem k (.attrs a Cl (setL as name v)) }) : Sa C (.ref k a) v name st Q := by
  intro R s ov vv r ho hv; (first | obtain ⟨_, rfl⟩ := VR.str' ho | obtain ⟨_, rfl⟩ := VR.int' ho | obtain rfl := VR.ref' ho | obtain rfl := VR.con' ho | obtain ⟨_, rfl, _⟩ := VR.bm' ho | obtain ⟨rfl, _⟩ := VR.fz' ho | obtain rfl := VR.bool' ho | obtain rfl := VR.none' ho | cases ho)
  obtain ⟨Cl, as, dx, sl, es, n, e1, e2, e3, e4, e5, ⟨p1, p2, p3, p4⟩, hz, h⟩ := r.inst h
  obtain ⟨m, F, hl⟩ := r.fr
  have hm := r.mem _ (mlk_mem e1)
  obtain ⟨_, _, _, hdL, hd0⟩ := hm
  obtain ⟨pre, post, e, h1, h2⟩ := allNews_split (mem_allNews.mpr ⟨e3, hdL, hd0⟩)
  have hsome : (getL name es).isSome = true := by
    cases q : lk as name with
    | some w => obtain ⟨x, h1, _⟩ := getL_some e4 e5 q; refine rg h1 ?_; rfl
    | none => refine rg (getL_none e4 e5 q) ?_; rfl
  have N : News C.h₀ C.L s.heap (pre ++ (dx, dictOf es n) :: post) := e ▸ allNews_ok
  obtain ⟨q1, q2⟩ := putL_ok (name := name) (hsh := PyData.keyHash C.w.params name) (tk := s.toks + 1) hv e4 e5
  refine set_dict F ok.X N ⟨(r.frz _ _ e2).1, rfl, rfl, e3⟩ rfl p1 p2 p3 p4 hsome rfl (upd_of h2 h1) ?_ fun h' F' N' => ?_
  · refine rl q1 ?_
    have : ∀ l : List (Str × SV), (setL l name v).length ≤ l.length + 1 := by
      intro l
      induction l with
      | nil => exact Nat.le_refl _
      | cons p l ih =>
        obtain ⟨y, u⟩ := p
        refine rg (setL_cons ..) ?_
        split
        · simp
        · simp only [List.length_cons]; lia
    have := this as
    lia
  · refine ⟨R, .rfl, _, r.put2 (s' := { s with heap := h', toks := s.toks + 2 }) e1 hl F' (fun b ob hb hbL hg => ?_) (N' _ (List.mem_append_right _ (.head _))).1 (.attrs e2 q1 q2) rfl rfl, h⟩
    cases q : C.h₀.get? b with
    | some x =>
      have := F.keep b x q
      replace this := hg ▸ this; obtain rfl := Option.some.inj this
      exact F'.keep b ob q
    | none =>
      have hm : (b, ob) ∈ allNews C s := mem_allNews.mpr ⟨hg, hbL, q⟩
      replace hm := e ▸ hm
      rcases List.mem_append.mp hm with z | z
      · exact (N' _ (List.mem_append_left _ z)).1
      · rcases List.mem_cons.mp z with z | z
        · cases z; exact absurd rfl hb
        · exact (N' _ (List.mem_append_right _ (.tail _ z))).1
end Mine
end
end

section
open PySem PySem.W PySem.Calls PyProof.Rows
noncomputable section
set_option Elab.async false
set_option maxRecDepth 100000
set_option autoImplicit false
set_option linter.unusedVariables false
namespace Mine
theorem Me.inst {C : Cx} (ok : C.Ok) {st : St} {Q : SV → List SV → St → Prop} {k : Nat} {a f : Addr} {name : Str}
    (h : withInst st k a fun Cl as => (plainGet C.K Cl name = true ∧ findIn C.K (.ref Cl) name = some (some (.ref f)) ∧ isFn C.K (.ref f) = true ∧ lk as name = none) ∧ Q (.con (.ref f)) [.ref k a] st) : Me C (.ref k a) name st Q := by
  intro R s v pl r hv; (first | obtain ⟨_, rfl⟩ := VR.str' hv | obtain ⟨_, rfl⟩ := VR.int' hv | obtain rfl := VR.ref' hv | obtain rfl := VR.con' hv | obtain ⟨_, rfl, _⟩ := VR.bm' hv | obtain ⟨rfl, _⟩ := VR.fz' hv | obtain rfl := VR.bool' hv | obtain rfl := VR.none' hv | cases hv)
  obtain ⟨Cl, as, dx, sl, es, n, e1, e2, e3, e4, e5, ⟨p1, p2, p3, p4⟩, h⟩ := r.inst h
  obtain ⟨m, F, hl⟩ := r.fr
  exact method_inst F ok.X ⟨(r.frz _ _ e2).1, rfl, rfl, e3⟩ p1 p2 p3 (getL_none e4 e5 p4) ⟨R, .rfl, _, _, st, r, .con, .cons .ref .nil, h⟩
/-- a property: its own function is called -/
theorem Ga.prop {C : Cx} (ok : C.Ok) {st : St} {Q : SV → St → Prop} {k : Nat} {a p fget : Addr} {rest : List Value} {name : Str}
    (h : withInst st k a fun Cl as => plainGet C.K Cl name = true ∧ hasDictIn C.K Cl = true ∧ findIn C.K (.ref Cl) name = some (some (.ref p)) ∧ specialIn C.K (.ref p) "__get__" = some (some (.builtin "property.__get__")) ∧
      takesIn C.K (.ref p) = some true ∧ recIn C.K p "property" = some (.ref fget :: rest))
    (hc : Cu C C.A.in1 (.con (.ref fget)) [.ref k a] [] st fun v st => handed v = true ∧ Q v st) : Ga C (.ref k a) name st Q := by
  intro R s v r hv; (first | obtain ⟨_, rfl⟩ := VR.str' hv | obtain ⟨_, rfl⟩ := VR.int' hv | obtain rfl := VR.ref' hv | obtain rfl := VR.con' hv | obtain ⟨_, rfl, _⟩ := VR.bm' hv | obtain ⟨rfl, _⟩ := VR.fz' hv | obtain rfl := VR.bool' hv | obtain rfl := VR.none' hv | cases hv)
  obtain ⟨Cl, as, dx, sl, es, n, e1, e2, e3, e4, e5, p1, p2, p3, p4, p5, p6⟩ := r.inst h
  obtain ⟨m, F, hl⟩ := r.fr
  refine get_prop F ok.X ⟨(r.frz _ _ e2).1, rfl, rfl, e3⟩ p1 p2 p3 p4 p5 p6 ?_
  refine codeAny_mono (hc R _ _ _ [] (r.toks (s.toks + 1)) .con (.cons .ref .nil) .nil) fun x s' z => ?_
  induction x with
  | error e => exact z.elim
  | ok f =>
    induction f with
    | ret v =>
      obtain ⟨R', g, sv, st', r', hv, h1, h2⟩ := z
      have : handedOut v = pure v := by
        induction hv <;> first | rfl | exact ftE h1
      refine (?_ : wpAny _ _ (handedOut v) _ _ _)
      refine rg this ?_
      exact wpAny_pure ⟨R', g, sv, st', r', hv, h2⟩
    | _ => exact z.elim
end Mine
end
end

section
open PySem PySem.W PySem.Calls PyProof.Rows
noncomputable section
set_option Elab.async false
set_option maxRecDepth 100000
set_option autoImplicit false
set_option linter.unusedVariables false
namespace Mine
section
variable {prog : Program} {w : World} {A : Around} {E : Value → Shared → Prop} {s : Shared} {d : Addr} {f : Int → Option Value}
theorem tl_hit {c : Nat} {t : Str} {tk : Tok} {Q : Builtin.Str.Mapped → Shared → Prop} (hm : s.heap.MapOf (intKind prog w) d f) (hf : f c = some (.str t tk)) (h : ∀ n, Q (.text t) { s with toks := n }) :
    wpAny (model prog w) A (Builtin.Str.tableLookup (.ref d) c) Q E s := by
  unfold Builtin.Str.tableLookup
  refine wpAny_bind (wpAny_attempt (wpAny_bind (wpAny_mkInt ?_)))
  refine wpAny_getItem_of (k := (c : Int)) (s := { s with toks := s.toks + 1 }) (by simp [intKind, Value.isInt]) hm hf ?_
  exact wpAny_bind (wpAny_of_eq (a := none) rfl (wpAny_bind (wpAny_of_eq (a := some t) rfl (wpAny_pure (h _)))))
theorem tl_miss {c : Nat} {Q : Builtin.Str.Mapped → Shared → Prop} (hm : s.heap.MapOf (intKind prog w) d f) (hf : f c = none) (hd : (d == sysModules) = false) (hh : A.handled = none)
    (h : ∀ h' n, (∀ b o, s.heap.get? b = some o → h'.get? b = some o) → Q .keep { s with heap := h', toks := n }) :
    wpAny (model prog w) A (Builtin.Str.tableLookup (.ref d) c) Q E s := by
  unfold Builtin.Str.tableLookup
  refine wpAny_bind (wpAny_attempt (wpAny_bind (wpAny_mkInt ?_)))
  refine wpAny_getItem_missing_of (k := (c : Int)) (s := { s with toks := s.toks + 1 }) (by simp [intKind, Value.isInt]) hd hh hm hf ?_
  intro h' e hn
  obtain ⟨ob, t, h1, h2, _⟩ := hn.there
  refine wpAny_bind (wpAny_isInstance (T := "KeyError") (b := true) ⟨ob, h1, h2⟩ (by refine rg (isSubtype_type ..) ?_; kernel_rfl) ?_)
  exact wpAny_bind (wpAny_rule (wpAny_pure (h _ _ hn.keeps)))
theorem call_translate1 {c : Nat} {tk : Tok} {Q : Value → Shared → Prop} {sp : Bool} (hm : s.heap.MapOf (intKind prog w) d f) (hf : match sp with | true => ∃ t, f c = some (.str ⟨#[92, c]⟩ t) | false => f c = none) (hd : (d == sysModules) = false) (hh : A.handled = none)
    (h : ∀ h' n t, (∀ b o, s.heap.get? b = some o → h'.get? b = some o) → Q (.str ⟨match sp with | true => #[92, c] | false => #[c]⟩ t) { s with heap := h', toks := n }) :
    wpAny (model prog w) A (call (.builtin "str.translate") [.str ⟨#[c]⟩ tk, .ref d]) Q E s := by
  refine wpAny_call_entry PySem.F.slot_str_translate (typeIs_str _ _ _) PySem.F.entry_str_translate ?_ (PySem.F.args_str_translate_2 _ _)
  have e0 : Builtin.Str.strOneArg "translate" ⟨[.str ⟨#[c]⟩ tk, .ref d], []⟩ = pure (.str ⟨#[c]⟩ tk, ⟨#[c]⟩, .ref d) := rfl
  unfold Builtin.«str.translate»
  refine rg e0 ?_
  refine wpAny_bind (wpAny_pure ?_)
  refine (?_ : wpAny _ _ (bind (forIn #[c] _ _) _) _ _ _)
  have key : ∀ (s₁ : Shared) (Q : Builtin.Str.Mapped → Shared → Prop), s₁.heap.MapOf (intKind prog w) d f → (∀ h' n, (∀ b o, s₁.heap.get? b = some o → h'.get? b = some o) → Q (match sp with | true => .text ⟨#[92, c]⟩ | false => .keep) { s₁ with heap := h', toks := n }) →
      wpAny (model prog w) A.in1 (Builtin.Str.tableLookup (.ref d) c) Q E s₁ := by
    intro s₁ Q hm h
    induction sp with
    | true => obtain ⟨t, hf⟩ := hf; exact tl_hit hm hf fun n => h _ n fun _ _ e => e
    | false => exact tl_miss hm hf hd hh fun h' n hk => h h' n hk
  refine rl Array.forIn_toList ?_
  simp only [List.forIn_cons, List.forIn_nil]
  have t0 : Builtin.Str.tooLong 0 = false := by decide +kernel
  have t1 : ∀ l : List Builtin.Str.Mapped, True := fun _ => trivial
  have hall : (#[c].all fun x => decide (x < 128)) = decide (c < 128) := by simp
  have two : ((⟨#[92, c]⟩ : Str).length == 1) = false := rfl
  have slow : ∀ (kn : List (Nat × Option Nat)) (s₁ : Shared), (∀ b o, s.heap.get? b = some o → s₁.heap.get? b = some o) → s₁.gens = s.gens → s₁.drawn = s.drawn → s₁.os = s.os → s₁.heap.MapOf (intKind prog w) d f →
      wpAny (model prog w) A.in1 (do
        let m ← Builtin.Str.tableLookup (Value.ref d) c
        match m with
        | Builtin.Str.Mapped.keep => pure (ForInStep.yield (([{ cps := #[c] }] : List Str), 0 + 1, false, kn, false))
        | Builtin.Str.Mapped.drop => pure (ForInStep.yield ([], 0, false, kn, true))
        | Builtin.Str.Mapped.char d => pure (ForInStep.yield ([{ cps := #[d] }], 0 + 1, false, kn, false))
        | Builtin.Str.Mapped.text t => pure (ForInStep.yield ([t], 0 + t.length, false, kn, false)))
        (fun x s' => (∃ q n b, n ≤ 2 ∧ x = ForInStep.yield (([⟨match sp with | true => #[92, c] | false => #[c]⟩] : List Str), n, q, kn, b)) ∧ (∀ b o, s.heap.get? b = some o → s'.heap.get? b = some o) ∧ s'.gens = s.gens ∧ s'.drawn = s.drawn ∧ s'.os = s.os) E s₁ := by
    intro kn s₁ hk hg hdr ho hm
    refine wpAny_bind (key s₁ _ hm fun h' n hk' => ?_)
    induction sp with
    | true => exact wpAny_pure ⟨⟨_, 2, _, Nat.le_refl _, rfl⟩, fun b o e => hk' b o (hk b o e), hg, hdr, ho⟩
    | false => exact wpAny_pure ⟨⟨_, 1, _, by decide, rfl⟩, fun b o e => hk' b o (hk b o e), hg, hdr, ho⟩
  have keepMap : ∀ (h' : Heap), (∀ b o, s.heap.get? b = some o → h'.get? b = some o) → h'.MapOf (intKind prog w) d f := fun h' hk => let ⟨o, es, ep, a, b⟩ := hm; ⟨o, es, ep, hk _ _ a, b⟩
  refine wpAny_bind (wpAny_mono (Q := fun x s' => (∃ q n kn b, n ≤ 2 ∧ x = ((⟨match sp with | true => #[92, c] | false => #[c]⟩ :: [] : List Str), n, q, kn, b)) ∧ (∀ b o, s.heap.get? b = some o → s'.heap.get? b = some o) ∧ s'.gens = s.gens ∧ s'.drawn = s.drawn ∧ s'.os = s.os) (E := E) ?_ ?_ fun _ _ e => e)
  · refine wpAny_bind ?_
    refine rg (if_neg (by rw [t0]; decide)) (rg hall ?_)
    by_cases hc : c < 128
    · refine rg (if_pos (by simpa using hc)) ?_
      refine (?_ : wpAny _ _ (bind (Builtin.Str.tableLookup (Value.ref d) c) _) _ _ _)
      refine wpAny_bind (key s _ hm fun h' n hk' => ?_)
      induction sp with
      | true =>
        simp only [two, Bool.false_and, Bool.false_eq_true, if_false]
        refine wpAny_bind (wpAny_pure ?_)
        refine wpAny_bind (wpAny_rule ?_)
        refine wpAny_mono (slow _ { s with heap := h', toks := n } hk' rfl rfl rfl (keepMap h' hk')) (fun x s' hx => ?_) fun _ _ e => e
        obtain ⟨⟨q, n, b, hn, rfl⟩, hx⟩ := hx
        exact wpAny_pure ⟨⟨q, n, _, b, hn, rfl⟩, hx⟩
      | false =>
        dsimp only
        refine wpAny_bind (wpAny_pure ?_)
        exact wpAny_pure (wpAny_pure ⟨⟨_, 1, _, _, by decide, rfl⟩, hk', rfl, rfl, rfl⟩)
    · refine rg (if_neg (by simpa using hc)) ?_
      have hc' : decide (c < 128) = false := by simpa using hc
      refine rg hc' ?_
      simp only [Bool.false_eq_true, if_false]
      refine wpAny_mono (slow _ s (fun _ _ e => e) rfl rfl rfl hm) (fun x s' hx => ?_) fun _ _ e => e
      obtain ⟨⟨q, n, b, hn, rfl⟩, hx⟩ := hx
      exact wpAny_pure ⟨⟨q, n, _, b, hn, rfl⟩, hx⟩
  · rintro x s' ⟨⟨q, n, kn, b, hn, rfl⟩, hk, hg, hdr, ho⟩
    dsimp only
    have t2 : Builtin.Str.tooLong n = false := by
      have : n = 0 ∨ n = 1 ∨ n = 2 := by lia
      rcases this with rfl | rfl | rfl <;> decide +kernel
    refine rg (if_neg (by rw [t2]; decide)) ?_
    obtain ⟨hp, g, dr, tk', os'⟩ := s'
    dsimp only at hk hg hdr ho
    subst hg hdr ho
    induction sp with
    | true => exact wpAny_bind (wpAny_mkStr (x := ⟨#[92, c]⟩) (wpAny_pure ⟨_, rfl, h _ _ _ hk⟩) (show 2 ≤ sizeLine by refine rg sizeLine_eq ?_; decide))
    | false => exact wpAny_bind (wpAny_mkStr (x := ⟨#[c]⟩) (wpAny_pure ⟨_, rfl, h _ _ _ hk⟩) (show 1 ≤ sizeLine by refine rg sizeLine_eq ?_; decide))
end
noncomputable def esc1 (sp : Nat → Bool) (c : Nat) : List Nat := match sp c with | true => [92, c] | false => [c]
section
variable {C : Cx} {st : St} {Q : SV → St → Prop}
theorem Me.translate {c : Bool} {x : List Nat} {Q : SV → List SV → St → Prop} (h : Q (.con (.builtin "str.translate")) [.str c x] st) : Me C (.str c x) "translate" st Q := by
  intro R s v pl r hv; (first | obtain ⟨_, rfl⟩ := VR.str' hv | obtain ⟨_, rfl⟩ := VR.int' hv | obtain rfl := VR.ref' hv | obtain rfl := VR.con' hv | obtain ⟨_, rfl, _⟩ := VR.bm' hv | obtain ⟨rfl, _⟩ := VR.fz' hv | obtain rfl := VR.bool' hv | obtain rfl := VR.none' hv | cases hv)
  refine getMethod_builtin (name := "translate") (id := "str.translate") (T := "str") (typeIs_str _ _ _) F.plainAttrs_str ?_ F.type_str_translate (fun a e => nomatch e) ?_
  · exact F.slot_str_translate
  exact ⟨R, .rfl, _, _, st, r, .con, .cons .str .nil, h⟩
/-- the table, a dict of the given heap, of one sign -/
theorem Cl.translate1 (ok : C.Ok) {cc : Bool} {c : Nat} {d : Addr} {f : Int → Option Value} {sp : Nat → Bool} (hm : C.h₀.MapOf (intKind C.prog C.w) d f) (hf : match sp c with | true => ∃ t, f c = some (.str ⟨#[92, c]⟩ t) | false => f c = none)
    (hd : (d == sysModules) = false) (h : Q (.str false (esc1 sp c)) st) : Cl C (.con (.builtin "str.translate")) [.str cc [c], .con (.ref d)] [] st Q := by
  intro R s v ws ks r hv hw hk
  obtain ⟨w0, t, rfl, h0, hw⟩ := hw.uncons
  obtain ⟨w, t, rfl, h1, h2⟩ := hw.uncons
  have := h2.unnil; subst this
  have := hk.unnil; subst this
  (first | obtain ⟨_, rfl⟩ := VR.str' hv | obtain ⟨_, rfl⟩ := VR.int' hv | obtain rfl := VR.ref' hv | obtain rfl := VR.con' hv | obtain ⟨_, rfl, _⟩ := VR.bm' hv | obtain ⟨rfl, _⟩ := VR.fz' hv | obtain rfl := VR.bool' hv | obtain rfl := VR.none' hv | cases hv); (first | obtain ⟨_, rfl⟩ := VR.str' h0 | obtain ⟨_, rfl⟩ := VR.int' h0 | obtain rfl := VR.ref' h0 | obtain rfl := VR.con' h0 | obtain ⟨_, rfl, _⟩ := VR.bm' h0 | obtain ⟨rfl, _⟩ := VR.fz' h0 | obtain rfl := VR.bool' h0 | obtain rfl := VR.none' h0 | cases h0); (first | obtain ⟨_, rfl⟩ := VR.str' h1 | obtain ⟨_, rfl⟩ := VR.int' h1 | obtain rfl := VR.ref' h1 | obtain rfl := VR.con' h1 | obtain ⟨_, rfl, _⟩ := VR.bm' h1 | obtain ⟨rfl, _⟩ := VR.fz' h1 | obtain rfl := VR.bool' h1 | obtain rfl := VR.none' h1 | cases h1)
  obtain ⟨m, F, hl⟩ := r.fr
  have hm' : s.heap.MapOf (intKind C.prog C.w) d f := let ⟨o, es, ep, a, b⟩ := hm; ⟨o, es, ep, F.keep _ _ a, b⟩
  refine call_translate1 hm' hf hd ok.hh fun h' n t hk => ?_
  refine ⟨R, .rfl, .str false (esc1 sp c), st, r.keep (s' := { s with heap := h', toks := n }) hk rfl rfl, ?_, h⟩
  unfold esc1
  cases sp c
  · exact .str (s := [c])
  · exact .str (s := [92, c])
end
end Mine
end
end

section
open PySem PySem.W PySem.Calls PyProof.Rows
noncomputable section
set_option Elab.async false
set_option maxRecDepth 100000
set_option autoImplicit false
set_option genSizeOf false
set_option genInjectivity false
set_option linter.unusedVariables false
namespace Mine

/-! iterators -/
noncomputable abbrev snoc (st : St) (c : Cell) : St := ⟨st.loc, st.mem ++ [c], st.nk⟩
section
variable {C : Cx} {R : Frz} {st : St} {s : Shared}
theorem Rel.unsnoc {c : Cell} (r : Rel C R (snoc st c) s) : Rel C R st s := r.forget (fun _ _ h => h) (List.sublist_append_left _ _)
theorem Rel.addEnd {s' : Shared} {k : Nat} {a : Addr} {o : Obj} {so : SO} (r : Rel C R st s) (r' : Rel C R st s')
    (ha : s.heap.objs.size ≤ a) (hget : s'.heap.get? a = some o) (hor : OR R a so o) : Rel C R (snoc st ⟨k, a, so⟩) s' := by
  have r1 := r.add r' ha hget hor
  refine ⟨r1.fr, fun c hc => ?_, fun b ob h => ⟨(r1.frz b ob h).1, (r1.frz b ob h).2.1, fun c hc => ?_⟩, r1.ban, ?_, r1.cvs, r1.gens, r1.os, fun p hp => let ⟨a1, b1, e⟩ := r1.outs p hp; ⟨a1, fun c hc => (by
    rcases List.mem_append.mp hc with hc | hc
    · exact b1 c (.tail _ hc)
    · rcases List.mem_singleton.mp hc with rfl
      exact b1 ⟨st.nk, a, so⟩ (.head _)), e⟩⟩
  · rcases List.mem_append.mp hc with hc | hc
    · exact r1.mem c (.tail _ hc)
    · rcases List.mem_singleton.mp hc with rfl
      exact r1.mem ⟨st.nk, a, so⟩ (.head _)
  · rcases List.mem_append.mp hc with hc | hc
    · exact (r1.frz b ob h).2.2 c (.tail _ hc)
    · rcases List.mem_singleton.mp hc with rfl
      exact (r1.frz b ob h).2.2 ⟨st.nk, a, so⟩ (.head _)
  · have := r1.nd
    simp only [List.map_cons] at this
    simp only [List.map_append, List.map_cons, List.map_nil]
    exact (List.perm_append_singleton a (st.mem.map (·.a))).nodup_iff.mpr this
theorem Rel.dropEnd {c : Cell} {h' : Heap} {t : Nat} (r : Rel C R (snoc st c) s) (hx : Heap.ExtBut c.a s.heap h') : Rel C R st { s with heap := h', toks := t } := by
  obtain ⟨m, F, hl⟩ := r.fr
  have hc := r.mem c (List.mem_append_right _ (.head _))
  obtain ⟨o0, _, g0, hne, hn0⟩ := hc
  obtain ⟨oL, es, ep, e1, e2⟩ := F.ns
  have nd := r.nd
  simp only [List.map_append, List.map_cons, List.map_nil] at nd
  have hne' : ∀ d ∈ st.mem, d.a ≠ c.a := fun d hd q => (List.nodup_append.mp nd).2.2 d.a (List.mem_map_of_mem hd) c.a (.head _) q
  refine ⟨⟨m, ⟨⟨oL, es, ep, hx _ _ (Ne.symm hne) e1, e2⟩, fun b ob e => hx _ _ (fun q => ?_) (F.keep b ob e), F.above⟩, hl⟩, fun d hd => ?_, fun b ob h => ?_, r.ban, (List.nodup_append.mp nd).1, r.cvs, r.gens, r.os, fun p hp => let ⟨a1, b1, sl, e⟩ := r.outs p hp; ⟨a1, fun d hd => b1 d (List.mem_append_left _ hd), sl, hx _ _ (fun q => b1 c (List.mem_append_right _ (.head _)) q.symm) e⟩⟩
  · replace e := hn0 ▸ q ▸ e; exact nsE e
  · obtain ⟨o', a, b, e⟩ := r.mem d (List.mem_append_left _ hd)
    exact ⟨o', a, hx _ _ (hne' d hd) b, e⟩
  · obtain ⟨x, y, z⟩ := r.frz b ob h
    exact ⟨hx _ _ (fun q => z c (List.mem_append_right _ (.head _)) q.symm) x, y, fun d hd => z d (List.mem_append_left _ hd)⟩
theorem Rel.putEnd {c : Cell} {h' : Heap} {t : Nat} {o : Obj} {so : SO} (r : Rel C R (snoc st c) s) (hx : Heap.ExtBut c.a s.heap h') (hget : h'.get? c.a = some o) (hor : OR R c.a so o) : Rel C R (snoc st ⟨c.k, c.a, so⟩) { s with heap := h', toks := t } := by
  have r1 := r.dropEnd (t := t) hx
  have hc := r.mem c (List.mem_append_right _ (.head _))
  obtain ⟨o0, _, g0, hne, hn0⟩ := hc
  refine ⟨r1.fr, fun d hd => ?_, fun b ob h => ⟨(r1.frz b ob h).1, (r1.frz b ob h).2.1, fun d hd => ?_⟩, r1.ban, ?_, r1.cvs, r1.gens, r1.os, fun p hp => let ⟨a1, b1, e⟩ := r1.outs p hp; ⟨a1, fun d hd => (by
    rcases List.mem_append.mp hd with hd | hd
    · exact b1 d hd
    · rcases List.mem_singleton.mp hd with rfl
      exact (r.outs p hp).2.1 c (List.mem_append_right _ (.head _))), e⟩⟩
  · rcases List.mem_append.mp hd with hd | hd
    · exact r1.mem d hd
    · rcases List.mem_singleton.mp hd with rfl
      exact ⟨o, hor, hget, hne, hn0⟩
  · rcases List.mem_append.mp hd with hd | hd
    · exact (r1.frz b ob h).2.2 d hd
    · rcases List.mem_singleton.mp hd with rfl
      exact (r.frz b ob h).2.2 c (List.mem_append_right _ (.head _))
  · have := r.nd
    simpa only [List.map_append, List.map_cons, List.map_nil] using this
end

/-- what an iterator object gives -/
structure Iter (C : Cx) (dep : St → Prop) (P : Nat → Obj → Prop) (xs : List SV) : Prop where
  item : ∀ {R : Frz} {s : Shared} {st : St} {it : Addr} {i : Nat} {o : Obj} {y : SV} {A : Around} {Q : Option Value → Shared → Prop} {E : Value → Shared → Prop}, Rel C R st s → dep st → s.heap.get? it = some o → P i o → xs[i]? = some y →
    (∀ v h' t, VR R y v → Heap.ExtBut it s.heap h' → (∃ o', h'.get? it = some o' ∧ P (i + 1) o') → Q (some v) { s with heap := h', toks := t }) → wpAny C.M A (pyNext (.ref it)) Q E s
  done : ∀ {R : Frz} {s : Shared} {st : St} {it : Addr} {o : Obj} {A : Around} {Q : Option Value → Shared → Prop} {E : Value → Shared → Prop}, Rel C R st s → dep st → s.heap.get? it = some o → P xs.length o → A.handled = none →
    (∀ h' t, Heap.ExtBut it s.heap h' → Q none { s with heap := h', toks := t }) → wpAny C.M A (pyNext (.ref it)) Q E s
inductive ItP (C : Cx) (R : Frz) (s : Shared) (K : (St → Prop) → List SV → (Nat → Obj → Prop) → St → Prop) (it : Value) (s' : Shared) : Prop
  | mk (a : Addr) (o : Obj) (dep : St → Prop) (xs : List SV) (P : Nat → Obj → Prop) (st' : St) (e : it = .ref a) (r : Rel C R st' s') (hf : s.heap.objs.size ≤ a) (hk : ∀ b o, s.heap.get? b = some o → s'.heap.get? b = some o)
    (r' : Rel C R st' { s' with heap := s.heap }) (hg : s'.heap.get? a = some o) (h0 : P 0 o) (hi : Iter C dep P xs) (q : K dep xs P st') : ItP C R s K it s'
/-- the iterator of a value -/
noncomputable def It (C : Cx) (v : SV) (st : St) (K : (St → Prop) → List SV → (Nat → Obj → Prop) → St → Prop) : Prop :=
  ∀ R s val, Rel C R st s → VR R v val → ∀ A, A.depth = C.A.depth → wpAny C.M A (pyIter val) (ItP C R s K) NoE s

noncomputable def liP (a : Addr) (i : Nat) (o : Obj) : Prop := o.cls = .type "list_iterator" ∧ o.data = .fields #[.ref a, .int i 0]
theorem Iter.list {C : Cx} {k : Nat} {a : Addr} {xs : List SV} : Iter C (fun st => withList st k a (· = xs)) (liP a) xs where
  item := fun {R s st it i o y A Q E} r d g p hy hq => by
    obtain ⟨xs', vs, n, e1, e2, e3, rfl⟩ := r.list d
    obtain ⟨v, hv, hr⟩ := e2.get hy
    exact wpAny_pyNext_list_item ⟨o, g, p⟩ (isList_of e3) (by simpa using hv) fun h' ⟨o', g', p'⟩ hs => hq _ h' _ hr hs.extBut ⟨o', g', p'⟩
  done := fun {R s st it o A Q E} r d g p hh hq => by
    obtain ⟨xs', vs, n, e1, e2, e3, rfl⟩ := r.list d
    exact wpAny_pyNext_list_end hh ⟨o, g, p⟩ (isList_of e3) (by simp [e2.len]) fun h' hx => hq h' _ hx
theorem It.list {C : Cx} {k : Nat} {a : Addr} {st : St} {K : (St → Prop) → List SV → (Nat → Obj → Prop) → St → Prop} (h : withList st k a fun xs => ∀ P, K (fun st => withList st k a (· = xs)) xs P st) : It C (.ref k a) st K := by
  intro R s val r hv A hA; (first | obtain ⟨_, rfl⟩ := VR.str' hv | obtain ⟨_, rfl⟩ := VR.int' hv | obtain rfl := VR.ref' hv | obtain rfl := VR.con' hv | obtain ⟨_, rfl, _⟩ := VR.bm' hv | obtain ⟨rfl, _⟩ := VR.fz' hv | obtain rfl := VR.bool' hv | obtain rfl := VR.none' hv | cases hv)
  obtain ⟨xs, vs, n, e1, e2, e3, h⟩ := r.list h
  refine wpAny_pyIter_list (isList_of e3) ?_
  exact ⟨_, _, _, xs, liP a, st, rfl, r.keep (s' := { s with heap := s.heap.push _ }) (fun b o e => Heap.get?_push_of_some _ e) rfl rfl, Nat.le_refl _, fun b o e => Heap.get?_push_of_some _ e, r, Heap.get?_push_size _ rfl, ⟨rfl, rfl⟩, Iter.list, h _⟩
theorem It.str {C : Cx} {c : Bool} {x : List Nat} {st : St} {K : (St → Prop) → List SV → (Nat → Obj → Prop) → St → Prop} (h : ∀ P, K (fun _ => True) (x.map fun c => .str false [c]) P st) : It C (.str c x) st K := by
  intro R s val r hv A hA; (first | obtain ⟨_, rfl⟩ := VR.str' hv | obtain ⟨_, rfl⟩ := VR.int' hv | obtain rfl := VR.ref' hv | obtain rfl := VR.con' hv | obtain ⟨_, rfl, _⟩ := VR.bm' hv | obtain ⟨rfl, _⟩ := VR.fz' hv | obtain rfl := VR.bool' hv | obtain rfl := VR.none' hv | cases hv)
  rename_i t
  have mk : ∀ (T : String) (item : ∀ {A : Around} {E : Value → Shared → Prop} {s : Shared} {it : Addr} {i c : Nat} {Q : Option Value → Shared → Prop}, s.heap.IsStrIter it T ⟨x.toArray⟩ t i → (⟨x.toArray⟩ : Str).cps[i]? = some c → (∀ h', h'.IsStrIter it T ⟨x.toArray⟩ t (i + 1) → Heap.SameBut it s.heap h' → Q (some (.str ⟨#[c]⟩ s.toks)) { s with heap := h', toks := s.toks + 1 }) → wpAny C.M A (pyNext (.ref it)) Q E s)
      (done : ∀ {A : Around} {E : Value → Shared → Prop} {s : Shared} {it : Addr} {i : Nat} {Q : Option Value → Shared → Prop}, A.handled = none → s.heap.IsStrIter it T ⟨x.toArray⟩ t i → (⟨x.toArray⟩ : Str).cps[i]? = none → (∀ h', Heap.ExtBut it s.heap h' → Q none { s with heap := h' }) → wpAny C.M A (pyNext (.ref it)) Q E s),
      Iter C (fun _ => True) (fun i o => o.cls = .type T ∧ o.data = .fields #[.str ⟨x.toArray⟩ t, .int i 0]) (x.map fun c => .str false [c]) := by
    intro T item done
    refine ⟨fun {R s st it i o y A Q E} r d g p hy hq => ?_, fun {R s st it o A Q E} r d g p hh hq => ?_⟩
    · replace hy := (List.getElem?_map) ▸ hy
      obtain ⟨c, hc, rfl⟩ := Option.map_eq_some_iff.mp hy
      exact item ⟨o, g, p⟩ (c := c) (by simpa using hc) fun h' ⟨o', g', p'⟩ hs => hq _ h' _ (.str (s := [c])) hs.extBut ⟨o', g', p'⟩
    · exact done hh ⟨o, g, p⟩ (by simp) fun h' hx => hq h' _ hx
  cases ha : (⟨x.toArray⟩ : Str).cps.all (· < 128)
  · refine wpAny_pyIter_wide ha ?_
    exact ⟨_, _, _, _, _, st, rfl, r.keep (s' := { s with heap := s.heap.push _ }) (fun b o e => Heap.get?_push_of_some _ e) rfl rfl, Nat.le_refl _, fun b o e => Heap.get?_push_of_some _ e, r, Heap.get?_push_size _ rfl, ⟨rfl, rfl⟩, mk "str_iterator" wpAny_pyNext_wide_item wpAny_pyNext_wide_end, h _⟩
  · refine wpAny_pyIter_ascii ha ?_
    exact ⟨_, _, _, _, _, st, rfl, r.keep (s' := { s with heap := s.heap.push _ }) (fun b o e => Heap.get?_push_of_some _ e) rfl rfl, Nat.le_refl _, fun b o e => Heap.get?_push_of_some _ e, r, Heap.get?_push_size _ rfl, ⟨rfl, rfl⟩, mk "str_ascii_iterator" wpAny_pyNext_ascii_item wpAny_pyNext_ascii_end, h _⟩
end Mine
end
end

section
open PySem PySem.W PySem.Calls PyProof.Rows
noncomputable section
set_option Elab.async false
set_option maxRecDepth 100000
set_option autoImplicit false
set_option linter.unusedVariables false
namespace Mine
noncomputable def RangeO (n : Int) (o : Obj) : Prop := ∃ t u v : Tok, o = { cls := .type "range", dict := none, data := .fields #[.int 0 t, .int n u, .int 1 v], slots := #[] }
noncomputable def riP (n : Nat) (i : Nat) (o : Obj) : Prop := o = { cls := .type "range_iterator", dict := none, data := .fields #[rawInt (0 + (i : Int)), rawInt ((n : Int) - i), rawInt 1], slots := #[] }
noncomputable abbrev rangeS (n : Nat) : List SV := (List.range n).map fun (i : Nat) => .int false (i : Int)
theorem Iter.range {C : Cx} {n : Nat} : Iter C (fun _ => True) (riP n) (rangeS n) where
  item := fun {R s st it i o y A Q E} r d g p hy hq => by
    replace hy := (List.getElem?_map) ▸ hy
    obtain ⟨c, hc, rfl⟩ := Option.map_eq_some_iff.mp hy
    obtain ⟨hlt, hc⟩ := List.getElem?_eq_some_iff.mp hc
    replace hlt := List.length_range ▸ hlt
    rw [List.getElem_range] at hc
    subst hc
    unfold riP at p
    subst p
    refine wpAny_pyNext_range_item g (by lia) fun h' h1 hs => hq _ h' _ ?_ hs.extBut ⟨_, h1, ?_⟩
    · refine rg (Int.zero_add ..) ?_; exact .int
    · unfold riP
      exact rg (show (0 : Int) + (i : Int) + 1 = 0 + ((i + 1 : Nat) : Int) by lia) (rg (show ((n : Int) - i - 1) = (n : Int) - ((i + 1 : Nat) : Int) by lia) rfl)
  done := fun {R s st it o A Q E} r d g p hh hq => by
    unfold riP at p
    subst p
    rw [List.length_map, List.length_range] at g
    exact wpAny_pyNext_range_end hh g (by lia) fun h' hx => hq h' _ hx
section
variable {C : Cx} {st : St} {Q : SV → St → Prop}
theorem It.range {n : Nat} {a : Addr} {o : Obj} {K : (St → Prop) → List SV → (Nat → Obj → Prop) → St → Prop} (ho : RangeO n o) (hn : n ≤ szB) (h : ∀ P, K (fun _ => True) (rangeS n) P st) : It C (.fz a o) st K := by
  intro R s val r hv A hA
  cases hv with
  | fz ha =>
    obtain ⟨t, u, v, rfl⟩ := ho
    unfold szB at hn
    refine wpAny_pyIter_range (r.frz _ _ ha).1 (small_one (by lia) (by lia) (by lia) (by lia)) ?_
    refine ⟨_, _, _, _, riP n, st, rfl, r.keep (s' := { s with heap := s.heap.push _ }) (fun b o e => Heap.get?_push_of_some _ e) rfl rfl, Nat.le_refl _, fun b o e => Heap.get?_push_of_some _ e, r, Heap.get?_push_size _ rfl, ?_, Iter.range, h _⟩
    unfold riP
    refine rg (rangeSize_one ..) ?_
    have : (if (0 : Int) < n then (n : Int) - 0 else 0) = (n : Int) - ((0 : Nat) : Int) := by split <;> lia
    refine rg this ?_
    rfl
theorem fzNew (ok : C.Ok) {R : Frz} {s : Shared} {t : Nat} (r : Rel C R st s) (o : Obj) (hf : o.isFreed = false) (h : ∀ a, Q (.fz a o) st) :
    VP C R Q (.ref s.heap.objs.size) { s with heap := s.heap.push o, toks := t } :=
  ⟨fun b x => R b x ∨ (b = s.heap.objs.size ∧ x = o), fun _ _ h => Or.inl h, _, st, r.freeze ok (r.keep (s' := { s with heap := s.heap.push o, toks := t }) (fun b o e => Heap.get?_push_of_some _ e) rfl rfl) (Nat.le_refl _) (Heap.get?_push_size _ hf), .fz (.inr ⟨rfl, rfl⟩), h _⟩
theorem Cl.range (ok : C.Ok) {c : Bool} {n : Int} (h : ∀ a o, RangeO n o → Q (.fz a o) st) : Cl C (.con (.type "range")) [.int c n] [] st Q := by
  intro R s v ws ks r hv hw hk
  obtain ⟨w, t, rfl, h1, h2⟩ := hw.uncons
  have := h2.unnil; subst this
  have := hk.unnil; subst this
  (first | obtain ⟨_, rfl⟩ := VR.str' hv | obtain ⟨_, rfl⟩ := VR.int' hv | obtain rfl := VR.ref' hv | obtain rfl := VR.con' hv | obtain ⟨_, rfl, _⟩ := VR.bm' hv | obtain ⟨rfl, _⟩ := VR.fz' hv | obtain rfl := VR.bool' hv | obtain rfl := VR.none' hv | cases hv); (first | obtain ⟨_, rfl⟩ := VR.str' h1 | obtain ⟨_, rfl⟩ := VR.int' h1 | obtain rfl := VR.ref' h1 | obtain rfl := VR.con' h1 | obtain ⟨_, rfl, _⟩ := VR.bm' h1 | obtain ⟨rfl, _⟩ := VR.fz' h1 | obtain rfl := VR.bool' h1 | obtain rfl := VR.none' h1 | cases h1)
  refine call_range_1 ?_
  exact fzNew ok r _ rfl fun a => h _ _ ⟨_, _, _, rfl⟩

/-- the for loop over an iterator of this context -/
noncomputable def forB (C : Cx) (kI it : Nat) (P : Nat → Obj → Prop) (I : Nat → St → Prop) (i : Nat) (Q : SF → St → Prop) (f : SF) (st2 : St) : Prop := match f with
  | .next => ∃ st3, Le C st2 (snoc st3 ⟨kI, it, .raw (P (i + 1))⟩) ∧ I (i + 1) st3
  | .cont => ∃ st3, Le C st2 (snoc st3 ⟨kI, it, .raw (P (i + 1))⟩) ∧ I (i + 1) st3
  | .brk => Q .next st2
  | .ret v => Q (.ret v) st2
noncomputable def forS (C : Cx) (body : List Stmt) (kI it : Nat) (P : Nat → Obj → Prop) (I : Nat → St → Prop) (i : Nat) (Q : SF → St → Prop) (st1 : St) : Prop := Es C (execs body C.env) st1 (forB C kI it P I i Q)
noncomputable def forK2 (C : Cx) (x : Str) (body orelse : List Stmt) (Q : SF → St → Prop) (dep : St → Prop) (xs : List SV) (P : Nat → Obj → Prop) (st₂ : St) : Prop :=
  ∃ (I : Nat → St → Prop) (kI : Nat), (∃ st0, Le C st₂ st0 ∧ I 0 st0) ∧ (∀ i st, I i st → dep st) ∧
    (∀ i y st it, I i st → xs[i]? = some y → stS C x y (snoc st ⟨kI, it, .raw (P (i + 1))⟩) (forS C body kI it P I i Q)) ∧
    (∀ st, I xs.length st → Es C (execs orelse C.env) st Q)
noncomputable def forK (C : Cx) (x : Str) (body orelse : List Stmt) (Q : SF → St → Prop) (v : SV) (st₁ : St) : Prop := It C v st₁ (forK2 C x body orelse Q)
noncomputable def forI (C : Cx) (R : Frz) (kI : Nat) (a : Addr) (P : Nat → Obj → Prop) (I : Nat → St → Prop) (l : Nat) (n : Nat) (s : Shared) : Prop :=
  ∃ R' st' i o, Grows R R' ∧ Rel C R' (snoc st' ⟨kI, a, .raw (P i)⟩) s ∧ s.heap.get? a = some o ∧ P i o ∧ I i st' ∧ i ≤ l ∧ n = l - i
theorem Es.for (ok : C.Ok) {x : Str} {p : Pos} {iter : Expr} {body orelse : List Stmt} {pos : Pos} {Q : SF → St → Prop} (hs : ∀ v, foldedSetIterable iter C.env v = pure v)
    (h : Ev C (eval iter C.env) st (forK C x body orelse Q)) : Es C (exec (.For (.Name x p) iter body orelse pos) C.env) st Q := fun R s rr => by
  refine wpAny_For (wpAny_mono (h R s rr) ?_ fun _ _ e => e.elim) hs
  rintro v s1 ⟨R1, g1, sv, st1, r1, hv, h1⟩
  refine wpAny_mono (h1 R1 s1 v r1 hv C.A rfl) ?_ fun _ _ e => e.elim
  rintro _ s2 ⟨a, o, dep, xs, P, st2, rfl, r2, hfr, hkp, r2', hget, hP0, hIt, I, kI, ⟨st0, hle, hI0⟩, hdep, hbody, hend⟩
  refine codeAny_forLoop (forI C R kI a P I xs.length) ?_ xs.length
    ⟨R1, st0, 0, o, g1, Rel.addEnd (hle _ _ r2') (hle _ _ r2) hfr hget (.raw hP0), hget, hP0, hI0, Nat.zero_le _, rfl⟩ (by intro _; rfl)
  rintro n s3 ⟨R3, st3, i, o3, g3, r3, e3, p3, hI3, hi3, rfl⟩
  cases hx : xs[i]? with
  | none =>
    have hi : i = xs.length := Nat.le_antisymm hi3 (by simpa using hx)
    subst hi
    refine hIt.done r3.unsnoc (hdep _ _ hI3) e3 p3 ok.hh fun h' t he => ?_
    exact wpAny_mono (hend st3 hI3 R3 _ (r3.dropEnd (t := t) he)) (fun _ _ q => q.grows g3) fun _ _ e => e.elim
  | some y =>
    have hi : i < xs.length := (List.getElem?_eq_some_iff.mp hx).1
    refine hIt.item r3.unsnoc (hdep _ _ hI3) e3 p3 hx fun v h' t hv he ⟨o', e', p'⟩ => ?_
    have r4 := r3.putEnd (t := t) he e' (.raw p')
    have hb := hbody i y st3 a hI3 hx
    refine wpAny_assign_Name (wpAny_mono (store_ok ok r4 hv hb) ?_ fun _ _ e => e.elim)
    rintro _ s5 ⟨st5, r5, h5⟩
    refine wpAny_mono (h5 R3 s5 r5) ?_ fun _ _ e => e.elim
    rintro f s6 ⟨R6, g6, sf, st6, r6, hf, h6⟩
    have g := g3.trans g6
    have nx : ∀ st7, Le C st6 (snoc st7 ⟨kI, a, .raw (P (i + 1))⟩) → I (i + 1) st7 → ∃ m, m < xs.length - i ∧ forI C R kI a P I xs.length m s6 := fun st7 le q => by
      have r7 := le R6 s6 r6
      obtain ⟨o7, z1, z2, _⟩ := r7.mem ⟨kI, a, .raw (P (i + 1))⟩ (List.mem_append_right _ (.head _))
      cases z1 with
      | raw z1 => exact ⟨xs.length - (i + 1), Nat.sub_lt_sub_left hi (Nat.lt_succ_self i), R6, st7, i + 1, o7, g, r7, z2, z1, q, hi, rfl⟩
    induction hf with
    | next => obtain ⟨st7, le, q⟩ := h6; exact nx st7 le q
    | cont => obtain ⟨st7, le, q⟩ := h6; exact nx st7 le q
    | brk => exact ⟨R6, g, .next, st6, r6, .next, h6⟩
    | ret hv => exact ⟨R6, g, _, st6, r6, .ret hv, h6⟩

/-! a few built-in functions -/
theorem Cl.isinst_str {c : Bool} {x : List Nat} (h : Q (.bool true true) st) : Cl C (.con (.builtin "isinstance")) [.str c x, .con (.type "str")] [] st Q := by
  intro R s v ws ks r hv hw hk
  obtain ⟨w0, t, rfl, h0, hw⟩ := hw.uncons
  obtain ⟨w, t, rfl, h1, h2⟩ := hw.uncons
  have := h2.unnil; subst this
  have := hk.unnil; subst this
  (first | obtain ⟨_, rfl⟩ := VR.str' hv | obtain ⟨_, rfl⟩ := VR.int' hv | obtain rfl := VR.ref' hv | obtain rfl := VR.con' hv | obtain ⟨_, rfl, _⟩ := VR.bm' hv | obtain ⟨rfl, _⟩ := VR.fz' hv | obtain rfl := VR.bool' hv | obtain rfl := VR.none' hv | cases hv); (first | obtain ⟨_, rfl⟩ := VR.str' h0 | obtain ⟨_, rfl⟩ := VR.int' h0 | obtain rfl := VR.ref' h0 | obtain rfl := VR.con' h0 | obtain ⟨_, rfl, _⟩ := VR.bm' h0 | obtain ⟨rfl, _⟩ := VR.fz' h0 | obtain rfl := VR.bool' h0 | obtain rfl := VR.none' h0 | cases h0); (first | obtain ⟨_, rfl⟩ := VR.str' h1 | obtain ⟨_, rfl⟩ := VR.int' h1 | obtain rfl := VR.ref' h1 | obtain rfl := VR.con' h1 | obtain ⟨_, rfl, _⟩ := VR.bm' h1 | obtain ⟨rfl, _⟩ := VR.fz' h1 | obtain rfl := VR.bool' h1 | obtain rfl := VR.none' h1 | cases h1)
  exact call_isinstance (isinstance_true (Tx := "str") (T := "str") (by kernel_rfl) (by refine rg (isSubtype_type ..) ?_; kernel_rfl)) ⟨typeIs_str _ _ _, R, .rfl, _, st, r, .bool, h⟩
theorem Cl.type_str {c : Bool} {x : List Nat} (h : Q (.con (.type "str")) st) : Cl C (.con (.type "type")) [.str c x] [] st Q := by
  intro R s v ws ks r hv hw hk
  obtain ⟨w0, t, rfl, h0, hw⟩ := hw.uncons
  have := hw.unnil; subst this
  have := hk.unnil; subst this
  (first | obtain ⟨_, rfl⟩ := VR.str' hv | obtain ⟨_, rfl⟩ := VR.int' hv | obtain rfl := VR.ref' hv | obtain rfl := VR.con' hv | obtain ⟨_, rfl, _⟩ := VR.bm' hv | obtain ⟨rfl, _⟩ := VR.fz' hv | obtain rfl := VR.bool' hv | obtain rfl := VR.none' hv | cases hv); (first | obtain ⟨_, rfl⟩ := VR.str' h0 | obtain ⟨_, rfl⟩ := VR.int' h0 | obtain rfl := VR.ref' h0 | obtain rfl := VR.con' h0 | obtain ⟨_, rfl, _⟩ := VR.bm' h0 | obtain ⟨rfl, _⟩ := VR.fz' h0 | obtain rfl := VR.bool' h0 | obtain rfl := VR.none' h0 | cases h0)
  exact call_type_of (typeIs_str _ _ _) (by decide) ⟨R, .rfl, _, st, r, .con, h⟩
theorem Cl.type_int {c : Bool} {i : Int} (h : Q (.con (.type "int")) st) : Cl C (.con (.type "type")) [.int c i] [] st Q := by
  intro R s v ws ks r hv hw hk
  obtain ⟨w0, t, rfl, h0, hw⟩ := hw.uncons
  have := hw.unnil; subst this
  have := hk.unnil; subst this
  (first | obtain ⟨_, rfl⟩ := VR.str' hv | obtain ⟨_, rfl⟩ := VR.int' hv | obtain rfl := VR.ref' hv | obtain rfl := VR.con' hv | obtain ⟨_, rfl, _⟩ := VR.bm' hv | obtain ⟨rfl, _⟩ := VR.fz' hv | obtain rfl := VR.bool' hv | obtain rfl := VR.none' hv | cases hv); (first | obtain ⟨_, rfl⟩ := VR.str' h0 | obtain ⟨_, rfl⟩ := VR.int' h0 | obtain rfl := VR.ref' h0 | obtain rfl := VR.con' h0 | obtain ⟨_, rfl, _⟩ := VR.bm' h0 | obtain ⟨rfl, _⟩ := VR.fz' h0 | obtain rfl := VR.bool' h0 | obtain rfl := VR.none' h0 | cases h0)
  exact call_type_of (typeIs_int _ _ _) (by decide) ⟨R, .rfl, _, st, r, .con, h⟩
theorem Cl.int_int {c : Bool} {i : Int} (h : Q (.int c i) st) : Cl C (.con (.type "int")) [.int c i] [] st Q := by
  intro R s v ws ks r hv hw hk
  obtain ⟨w0, t, rfl, h0, hw⟩ := hw.uncons
  have := hw.unnil; subst this
  have := hk.unnil; subst this
  (first | obtain ⟨_, rfl⟩ := VR.str' hv | obtain ⟨_, rfl⟩ := VR.int' hv | obtain rfl := VR.ref' hv | obtain rfl := VR.con' hv | obtain ⟨_, rfl, _⟩ := VR.bm' hv | obtain ⟨rfl, _⟩ := VR.fz' hv | obtain rfl := VR.bool' hv | obtain rfl := VR.none' hv | cases hv); (first | obtain ⟨_, rfl⟩ := VR.str' h0 | obtain ⟨_, rfl⟩ := VR.int' h0 | obtain rfl := VR.ref' h0 | obtain rfl := VR.con' h0 | obtain ⟨_, rfl, _⟩ := VR.bm' h0 | obtain ⟨rfl, _⟩ := VR.fz' h0 | obtain rfl := VR.bool' h0 | obtain rfl := VR.none' h0 | cases h0)
  exact call_int_int ⟨R, .rfl, _, st, r, .int, h⟩
theorem Cl.chr {c : Bool} {i : Int} (h : 0 ≤ i ∧ i ≤ 1114111 ∧ Q (.str false [i.toNat]) st) : Cl C (.con (.builtin "chr")) [.int c i] [] st Q := by
  intro R s v ws ks r hv hw hk
  obtain ⟨w0, t, rfl, h0, hw⟩ := hw.uncons
  have := hw.unnil; subst this
  have := hk.unnil; subst this
  (first | obtain ⟨_, rfl⟩ := VR.str' hv | obtain ⟨_, rfl⟩ := VR.int' hv | obtain rfl := VR.ref' hv | obtain rfl := VR.con' hv | obtain ⟨_, rfl, _⟩ := VR.bm' hv | obtain ⟨rfl, _⟩ := VR.fz' hv | obtain rfl := VR.bool' hv | obtain rfl := VR.none' hv | cases hv); (first | obtain ⟨_, rfl⟩ := VR.str' h0 | obtain ⟨_, rfl⟩ := VR.int' h0 | obtain rfl := VR.ref' h0 | obtain rfl := VR.con' h0 | obtain ⟨_, rfl, _⟩ := VR.bm' h0 | obtain ⟨rfl, _⟩ := VR.fz' h0 | obtain rfl := VR.bool' h0 | obtain rfl := VR.none' h0 | cases h0)
  exact chr_of_range h.1 h.2.1 ⟨R, .rfl, _, st, r.toks _, .str (s := [i.toNat]), h.2.2⟩
end
end Mine
end
end

section
open PySem PySem.W PySem.Calls PyProof.Rows
noncomputable section
set_option Elab.async false
set_option maxRecDepth 100000
set_option autoImplicit false
set_option linter.unusedVariables false
namespace Mine
theorem mro_object : mroOf (.type "object") = pure [.type "object"] := by refine rg (mroOf_type ..) ?_; kernel_rfl
theorem lookup_object_new : typeLookup (.type "object") "__new__" = pure (some (.builtin "object.__new__")) := by refine rg (typeLookup_type ..) (rg (builtinLookup_eq_fast ..) ?_); kernel_rfl
theorem slot_object_init : Slot "object" "__init__" "object.__init__" :=
  .of (owner := "object") (n := "__init__") (by refine rg (typeLookup_type ..) (rg (builtinLookup_eq_fast ..) ?_); kernel_rfl) (by decide +kernel) (by decide +kernel) (by decide +kernel)
    (by first | exact .inl (by decide +kernel) | exact .inr (by decide +kernel)) (by refine rg (isSubtype_type ..) ?_; kernel_rfl)
theorem called_object : TypeCalled "object" "object.__new__" "object.__init__" :=
  ⟨by decide +kernel, by decide +kernel, ⟨_, _, mro_object⟩, madeBy_type mro_object lookup_object_new (by decide +kernel), by decide +kernel, by refine rg (isSubtype_type ..) ?_; kernel_rfl, slot_object_init⟩
theorem typeCall_object_0 : checkTypeCall "object" ⟨[], []⟩ = pure () := by kernel_rfl
theorem newCall_object_0 : checkBuiltinCall "object.__new__" ⟨[.type "object"], []⟩ = pure () := by kernel_rfl
theorem entry_object_new' : entryFor table "object.__new__" = some Builtin.«object.__new__» := entryFor_of_tree (by kernel_rfl)
theorem entry_object_init' : entryFor table "object.__init__" = some Builtin.«object.__init__» := entryFor_of_tree (by kernel_rfl)
theorem args_object_init_1 (a : Value) : argsOk "object.__init__" ⟨[a], []⟩ := by unfold argsOk; kernel_rfl
theorem madeHere_object : Bind.madeHere "object.__new__" (.type "object") = pure () := by kernel_rfl
theorem meets_object_new : Meets (Builtin.«object.__new__» ⟨[.type "object"], []⟩) (fun _ R s => R (.ok (.ret (.ref s.heap.objs.size))) { s with heap := s.heap.push { cls := .type "object", data := .plain } }) := by
  refine Meets.of_wp fun prog w A R s hs => ?_
  have e : Builtin.«object.__new__» ⟨[.type "object"], []⟩ = (do let v ← newObj (.type "object") .plain none; ret v) := by
    first | rfl | kernel_rfl
  refine rg e ?_
  exact wpAny_bind (wpAny_newObj_type (wpAny_pure ⟨_, rfl, hs⟩))
theorem call_object {prog : Program} {w : World} {A : Around} {E : Value → Shared → Prop} {s : Shared} {Q : Value → Shared → Prop} (h : Q (.ref s.heap.objs.size) { s with heap := s.heap.push { cls := .type "object", data := .plain } }) :
    wpAny (model prog w) A (call (.type "object") []) Q E s := by
  refine callType_meets (Q₁ := fun v s' => v = .ref s.heap.objs.size ∧ s' = { s with heap := s.heap.push { cls := .type "object", data := .plain } }) called_object typeCall_object_0 newCall_object_0 entry_object_new' entry_object_init' meets_object_new ⟨rfl, rfl⟩ ?_
  rintro obj s₁ ⟨rfl, rfl⟩
  refine ⟨⟨_, Heap.get?_push_size _ rfl, rfl⟩, args_object_init_1 _, fun _ R s => R (.ok (.ret .none)) s, ?_, rfl, h⟩
  exact Meets.of_wp fun prog w A R s hs => wpAny_pure ⟨_, rfl, hs⟩
theorem Cl.object {C : Cx} {st : St} {Q : SV → St → Prop} (k : Nat) (h : ∀ a, Q (.ref k a) st) : Cl C (.con (.type "object")) [] [] st Q := by
  intro R s v ws ks r hv hw hk
  have := hw.unnil; subst this
  have := hk.unnil; subst this
  (first | obtain ⟨_, rfl⟩ := VR.str' hv | obtain ⟨_, rfl⟩ := VR.int' hv | obtain rfl := VR.ref' hv | obtain rfl := VR.con' hv | obtain ⟨_, rfl, _⟩ := VR.bm' hv | obtain ⟨rfl, _⟩ := VR.fz' hv | obtain rfl := VR.bool' hv | obtain rfl := VR.none' hv | cases hv)
  exact call_object ⟨R, .rfl, .ref k s.heap.objs.size, st, r.keep (s' := { s with heap := s.heap.push _ }) (fun b o e => Heap.get?_push_of_some _ e) rfl rfl, .ref, h _⟩
end Mine
end
end

section
open PySem PySem.W PySem.Calls PyProof.Rows
set_option Elab.async false
set_option maxRecDepth 100000
set_option autoImplicit false
set_option genSizeOf false
set_option genInjectivity false
set_option linter.unusedVariables false
namespace Mine
theorem dp {a n k : Nat} (h : a + n < 900) (hk : Nat.ble k n = true) : a + k < 900 := Nat.lt_of_le_of_lt (Nat.add_le_add_left (Nat.le_of_ble_eq_true hk) a) h
theorem upTo {n a b : Nat} (h : n ≤ a) (hk : Nat.ble a b = true) : n ≤ b := Nat.le_trans h (Nat.le_of_ble_eq_true hk)
noncomputable abbrev pw := PySem.Challenge.pw_il0193_02
noncomputable def stAt (i : Nat) : Stmt := match pw.main.body[i]? with | some x => x | none => .Break default
noncomputable def stIn (i j : Nat) : Stmt := match stAt i with | .ClassDef _ _ _ b .. => (match b[j]? with | some x => x | none => .Break default) | _ => .Break default
noncomputable def fBody (x : Stmt) : List Stmt := match x with | .FunctionDef _ _ b .. => b | _ => []
noncomputable def fPars (x : Stmt) : Arguments := match x with | .FunctionDef _ a .. => a | _ => default
noncomputable def fScope (x : Stmt) : Scope := match x with | .FunctionDef _ _ _ _ _ _ s .. => s | _ => default
noncomputable def KP (P : Params) : Frag := [
  (2, ⟨.none, none, (.dict #[⟨PyData.keyHash P "\x69mport.loaded._sre", .str "\x69mport.loaded._sre" 183, .bool true⟩, ⟨PyData.keyHash P "class._frozen_importlib.BuiltinImporter", .str "class._frozen_importlib.BuiltinImporter" 185, .ref 14⟩, ⟨PyData.keyHash P "watched.\x69mport", .str "watched.\x69mport" 206, .ref 18⟩, ⟨PyData.keyHash P "class._frozen_importlib.ModuleSpec", .str "class._frozen_importlib.ModuleSpec" 216, .ref 22⟩, ⟨PyData.keyHash P "sys.modules.booked-epoch", .str "sys.modules.booked-epoch" 245, .int 4 0⟩, ⟨PyData.keyHash P "\x69mport.later-laid._sre", .str "\x69mport.later-laid._sre" 270, .bool true⟩, ⟨PyData.keyHash P "watched.library", .str "watched.library" 272, .ref 27⟩, ⟨PyData.keyHash P "watched.library-objects", .str "watched.library-objects" 0, .str ⟨#[12, 30]⟩ 0⟩, ⟨PyData.keyHash P "watched.library-deep._sre", .str "watched.library-deep._sre" 273, .str ⟨#[4, 0, 0, 11, 4, 0, 0, 11, 4, 0, 0, 3, 4, 0, 0, 11, 8, 4, 100, 105, 99, 116, 2]⟩ 0⟩, ⟨PyData.keyHash P "\x69mport.loaded._collections", .str "\x69mport.loaded._collections" 280, .bool true⟩, ⟨PyData.keyHash P "sys.modules.landed._collections", .str "sys.modules.landed._collections" 294, .bool true⟩, ⟨PyData.keyHash P "\x69mport.later-laid._collections", .str "\x69mport.later-laid._collections" 309, .bool true⟩, ⟨PyData.keyHash P "watched.library-deep._collections", .str "watched.library-deep._collections" 311, .str ⟨#[4, 0, 0, 29, 4, 0, 0, 29, 4, 0, 0, 3, 4, 0, 0, 29, 8, 4, 100, 105, 99, 116, 2]⟩ 0⟩, ⟨PyData.keyHash P "type.__subclasses__.OSError.0", .str "type.__subclasses__.OSError.0" 674, .int 123 0⟩, ⟨PyData.keyHash P "type.__subclasses__.OSError.n", .str "type.__subclasses__.OSError.n" 675, .int 1 0⟩] 15), #[]⟩),
  (3, ⟨.type "dict", none, (.dict #[⟨PyData.keyHash P "__name__", .str "__name__" 165, .str "law_il0193_02" 1504⟩, ⟨PyData.keyHash P "__doc__", .str "__doc__" 166, .none⟩, ⟨PyData.keyHash P "__package__", .str "__package__" 167, .none⟩, ⟨PyData.keyHash P "__loader__", .str "__loader__" 168, .builtin "__main__.__loader__#opaque"⟩, ⟨PyData.keyHash P "__spec__", .str "__spec__" 169, .none⟩, ⟨PyData.keyHash P "__annotations__", .str "__annotations__" 170, .ref 6⟩, ⟨PyData.keyHash P "__builtins__", .str "__builtins__" 171, .ref 4⟩, ⟨PyData.keyHash P "__file__", .str "__file__" 173, .str "/claim/cut.py" 172⟩, ⟨PyData.keyHash P "__cached__", .str "__cached__" 174, .none⟩, ⟨PyData.keyHash P "_sre", .str "_sre" 275, .ref 12⟩, ⟨PyData.keyHash P "deque", .str "deque" 317, .type "collections.deque"⟩, ⟨PyData.keyHash P "_wall", .str "_wall" 330, .ref 44⟩, ⟨PyData.keyHash P "twin_re_1_smtplib", .str "twin_re_1_smtplib" 348, .ref 49⟩, ⟨PyData.keyHash P "_twin_re_2", .str "_twin_re_2" 390, .ref 54⟩, ⟨PyData.keyHash P "CRLF", .str "CRLF" 392, .str ⟨#[13, 10]⟩ 391⟩, ⟨PyData.keyHash P "quotedata", .str "quotedata" 399, .ref 61⟩, ⟨PyData.keyHash P "twin_re_1_fnmatch", .str "twin_re_1_fnmatch" 439, .ref 66⟩, ⟨PyData.keyHash P "translate", .str "translate" 448, .ref 73⟩, ⟨PyData.keyHash P "_special_chars_map", .str "_special_chars_map" 596, .ref 75⟩, ⟨PyData.keyHash P "escape", .str "escape" 603, .ref 85⟩, ⟨PyData.keyHash P "_translate", .str "_translate" 624, .ref 92⟩, ⟨PyData.keyHash P "_join_translated_parts", .str "_join_translated_parts" 637, .ref 99⟩, ⟨PyData.keyHash P "_whence", .str "_whence" 647, .ref 106⟩, ⟨PyData.keyHash P "_index", .str "_index" 655, .ref 113⟩, ⟨PyData.keyHash P "UnsupportedOperation", .str "UnsupportedOperation" 677, .ref 123⟩, ⟨PyData.keyHash P "IOBase", .str "IOBase" 709, .ref 143⟩, ⟨PyData.keyHash P "BufferedIOBase", .str "BufferedIOBase" 727, .ref 158⟩, ⟨PyData.keyHash P "TextIOBase", .str "TextIOBase" 745, .ref 170⟩, ⟨PyData.keyHash P "BytesIO", .str "BytesIO" 1007, .ref 400⟩, ⟨PyData.keyHash P "StringIO", .str "StringIO" 1294, .ref 647⟩, ⟨PyData.keyHash P "_kind", .str "_kind" 1305, .ref 656⟩, ⟨PyData.keyHash P "_fspath", .str "_fspath" 1314, .ref 663⟩, ⟨PyData.keyHash P "_check_arg_types", .str "_check_arg_types" 1324, .ref 670⟩, ⟨PyData.keyHash P "isabs", .str "isabs" 1331, .ref 677⟩, ⟨PyData.keyHash P "join", .str "join" 1342, .ref 684⟩, ⟨PyData.keyHash P "dirname", .str "dirname" 1352, .ref 691⟩, ⟨PyData.keyHash P "shlex", .str "shlex" 1493, .ref 782⟩, ⟨PyData.keyHash P "split", .str "split" 1503, .ref 794⟩, ⟨PyData.keyHash P "_law_items", .str "_law_items" 1511, .ref 799⟩, ⟨PyData.keyHash P "_law_told", .str "_law_told" 1517, .ref 804⟩, ⟨PyData.keyHash P "law", .str "law" 1527, .ref 811⟩] 41), #[]⟩),
  (48, ⟨.type "tuple", none, (.seq #[.int 14 0, .int 4 0, .int 0 0, .int 1 0, .int 1 0, .int 6 0, .int 1 0, .int 16 0, .int 46 0, .int 1 0] 0), #[]⟩),
  (49, ⟨.type "re.Pattern", none, (.fields #[.str ⟨#[40, 63, 109, 41, 94, 92, 46]⟩ 334, .int 40 347, .int 0 0, .none, .none, .ref 48, .int 0 0]), #[]⟩),
  (53, ⟨.type "tuple", none, (.seq #[.int 14 0, .int 9 0, .int 4 0, .int 1 0, .int 2 0, .int 16 0, .int 10 0, .int 16 0, .int 13 0, .int 0 0, .int 7 0, .int 7 0, .int 16 0, .int 13 0, .int 16 0, .int 10 0, .int 15 0, .int 18 0, .int 5 0, .int 16 0, .int 10 0, .int 15 0, .int 13 0, .int 11 0, .int 16 0, .int 13 0, .int 5 0, .int 5 0, .int 0 0, .int 16 0, .int 10 0, .int 1 0, .int 15 0, .int 2 0, .int 0 0, .int 1 0] 0), #[]⟩),
  (54, ⟨.type "re.Pattern", none, (.fields #[.str ⟨#[40, 63, 58, 92, 114, 92, 110, 124, 92, 110, 124, 92, 114, 40, 63, 33, 92, 110, 41, 41]⟩ 350, .int 32 389, .int 0 0, .none, .none, .ref 53, .int 0 0]), #[]⟩),
  (75, ⟨.type "dict", none, (.dict #[⟨40, .int 40 452, .str ⟨#[92, 40]⟩ 456⟩, ⟨41, .int 41 458, .str ⟨#[92, 41]⟩ 462⟩, ⟨91, .int 91 464, .str ⟨#[92, 91]⟩ 468⟩, ⟨93, .int 93 470, .str ⟨#[92, 93]⟩ 474⟩, ⟨123, .int 123 476, .str ⟨#[92, 123]⟩ 480⟩, ⟨125, .int 125 482, .str ⟨#[92, 125]⟩ 486⟩, ⟨63, .int 63 488, .str ⟨#[92, 63]⟩ 492⟩, ⟨42, .int 42 494, .str ⟨#[92, 42]⟩ 498⟩, ⟨43, .int 43 500, .str ⟨#[92, 43]⟩ 504⟩, ⟨45, .int 45 506, .str ⟨#[92, 45]⟩ 510⟩, ⟨124, .int 124 512, .str ⟨#[92, 124]⟩ 516⟩, ⟨94, .int 94 518, .str ⟨#[92, 94]⟩ 522⟩, ⟨36, .int 36 524, .str ⟨#[92, 36]⟩ 528⟩, ⟨92, .int 92 530, .str ⟨#[92, 92]⟩ 534⟩, ⟨46, .int 46 536, .str ⟨#[92, 46]⟩ 540⟩, ⟨38, .int 38 542, .str ⟨#[92, 38]⟩ 546⟩, ⟨126, .int 126 548, .str ⟨#[92, 126]⟩ 552⟩, ⟨35, .int 35 554, .str ⟨#[92, 35]⟩ 558⟩, ⟨32, .int 32 560, .str ⟨#[92, 32]⟩ 564⟩, ⟨9, .int 9 566, .str ⟨#[92, 9]⟩ 570⟩, ⟨10, .int 10 572, .str ⟨#[92, 10]⟩ 576⟩, ⟨13, .int 13 578, .str ⟨#[92, 13]⟩ 582⟩, ⟨11, .int 11 584, .str ⟨#[92, 11]⟩ 588⟩, ⟨12, .int 12 590, .str ⟨#[92, 12]⟩ 594⟩] 24), #[]⟩),
  (60, ⟨.type "code", none, (.fields #[.str "quotedata" 393, .str "quotedata" 394, .str "/claim/cut.py" 395, .int 10 0, .int 1 0, .int 0 0, .int 0 0, .int 3 0, .ref 55, .bool true, .int 318 0, .ref 56, .none, .ref 57, .ref 58, .ref 59, .int 397 0, .int 10 0, .str "/claim/cut.py" 398]), #[]⟩),
  (61, ⟨.type "function", none, (.func (fnOf "quotedata" "quotedata" (fPars (stAt 7)) (fBody (stAt 7)) (fScope (stAt 7)) .none .none .none (.str "cpy313.smtplib" 331) none (.ref 60) .none)), #[]⟩),
  (72, ⟨.type "code", none, (.fields #[.str "translate" 440, .str "translate" 441, .str "/claim/cut.py" 442, .int 14 0, .int 1 0, .int 0 0, .int 0 0, .int 3 0, .ref 67, .bool true, .int 318 0, .ref 68, .none, .ref 69, .ref 70, .ref 71, .int 446 0, .int 14 0, .str "/claim/cut.py" 447]), #[]⟩),
  (73, ⟨.type "function", none, (.func (fnOf "translate" "translate" (fPars (stAt 10)) (fBody (stAt 10)) (fScope (stAt 10)) .none .none .none (.str "cpy313.fnmatch" 400) none (.ref 72) .none)), #[]⟩),
  (84, ⟨.type "code", none, (.fields #[.str "escape" 597, .str "escape" 598, .str "/claim/cut.py" 599, .int 20 0, .int 1 0, .int 0 0, .int 0 0, .int 3 0, .ref 79, .bool true, .int 318 0, .ref 80, .none, .ref 81, .ref 82, .ref 83, .int 601 0, .int 20 0, .str "/claim/cut.py" 602]), #[]⟩),
  (85, ⟨.type "function", none, (.func (fnOf "escape" "escape" (fPars (stAt 13)) (fBody (stAt 13)) (fScope (stAt 13)) .none .none .none (.str "re" 449) none (.ref 84) .none)), #[]⟩),
  (91, ⟨.type "code", none, (.fields #[.str "_translate" 606, .str "_translate" 607, .str "/claim/cut.py" 608, .int 27 0, .int 3 0, .int 0 0, .int 0 0, .int 3 0, .ref 86, .bool true, .int 318 0, .ref 87, .none, .ref 88, .ref 89, .ref 90, .int 622 0, .int 27 0, .str "/claim/cut.py" 623]), #[]⟩),
  (92, ⟨.type "function", none, (.func (fnOf "_translate" "_translate" (fPars (stAt 15)) (fBody (stAt 15)) (fScope (stAt 15)) .none .none .none (.str "cpy313.fnmatch" 604) none (.ref 91) .none)), #[]⟩),
  (98, ⟨.type "code", none, (.fields #[.str "_join_translated_parts" 625, .str "_join_translated_parts" 626, .str "/claim/cut.py" 627, .int 89 0, .int 2 0, .int 0 0, .int 0 0, .int 3 0, .ref 93, .bool true, .int 318 0, .ref 94, .none, .ref 95, .ref 96, .ref 97, .int 635 0, .int 89 0, .str "/claim/cut.py" 636]), #[]⟩),
  (99, ⟨.type "function", none, (.func (fnOf "_join_translated_parts" "_join_translated_parts" (fPars (stAt 16)) (fBody (stAt 16)) (fScope (stAt 16)) .none .none .none (.str "cpy313.fnmatch" 604) none (.ref 98) .none)), #[]⟩),
  (112, ⟨.type "code", none, (.fields #[.str "_index" 648, .str "_index" 649, .str "/claim/cut.py" 650, .int 122 0, .int 2 0, .int 0 0, .int 0 0, .int 3 0, .ref 107, .bool true, .int 318 0, .ref 108, .none, .ref 109, .ref 110, .ref 111, .int 653 0, .int 122 0, .str "/claim/cut.py" 654]), #[]⟩),
  (113, ⟨.type "function", none, (.func (fnOf "_index" "_index" (fPars (stAt 19)) (fBody (stAt 19)) (fScope (stAt 19)) .none .none .none (.str "io" 638) none (.ref 112) .none)), #[]⟩),
  (139, ⟨.type "code", none, (.fields #[.str "__new__" 692, .str "IOBase.__new__" 693, .str "/claim/cut.py" 694, .int 134 0, .int 1 0, .int 1 0, .int 0 0, .int 15 0, .ref 134, .bool true, .int 318 0, .ref 135, .none, .ref 136, .ref 137, .ref 138, .int 698 0, .int 134 0, .str "/claim/cut.py" 699]), #[]⟩),
  (140, ⟨.type "function", none, (.func (fnOf "__new__" "IOBase.__new__" (fPars (stIn 21 1)) (fBody (stIn 21 1)) (fScope (stIn 21 1)) .none .none .none (.str "io" 638) none (.ref 139) .none)), #[]⟩),
  (142, ⟨.type "dict", none, (.dict #[⟨PyData.keyHash P "__module__", .str "__module__" 685, .str "io" 690⟩, ⟨PyData.keyHash P "__firstlineno__", .str "__firstlineno__" 689, .int 131 688⟩, ⟨PyData.keyHash P "__new__", .str "__new__" 700, .ref 144⟩, ⟨PyData.keyHash P "__static_attributes__", .str "__static_attributes__" 701, .ref 141⟩, ⟨PyData.keyHash P "__dict__", .str "__dict__" 704, .ref 145⟩, ⟨PyData.keyHash P "__weakref__", .str "__weakref__" 706, .ref 146⟩, ⟨PyData.keyHash P "__doc__", .str "__doc__" 707, .none⟩] 4), #[]⟩),
  (143, ⟨.type "type", none, (.cls { name := "IOBase", bases := [.type "object"], mro := [.ref 143, .type "object"], ns := 142, qualname := "IOBase", hasDict := true, slotNames := [], subclasses := [.ref 158, .ref 170], abstract := false, collection := none, hasDel := false }), #[none, none, some (.str "IOBase" 678), some (.str "IOBase" 686), some .none, some (.bool true)]⟩),
  (144, ⟨.type "staticmethod", none, (.fields #[.ref 140]), #[]⟩),
  (169, ⟨.type "dict", none, (.dict #[⟨PyData.keyHash P "__module__", .str "__module__" 735, .str "io" 740⟩, ⟨PyData.keyHash P "__firstlineno__", .str "__firstlineno__" 739, .int 140 738⟩, ⟨PyData.keyHash P "__static_attributes__", .str "__static_attributes__" 742, .ref 168⟩, ⟨PyData.keyHash P "__doc__", .str "__doc__" 743, .none⟩] 2), #[]⟩),
  (170, ⟨.type "type", none, (.cls { name := "TextIOBase", bases := [.ref 143], mro := [.ref 170, .ref 143, .type "object"], ns := 169, qualname := "TextIOBase", hasDict := true, slotNames := [], subclasses := [.ref 647], abstract := false, collection := none, hasDel := false }), #[some (.ref 161), none, some (.str "TextIOBase" 728), some (.str "TextIOBase" 736), some .none, some (.bool true)]⟩),
  (400, ⟨.type "type", none, (.cls { name := "BytesIO", bases := [.ref 158], mro := [.ref 400, .ref 158, .ref 143, .type "object"], ns := 399, qualname := "BytesIO", hasDict := true, slotNames := [], subclasses := [], abstract := false, collection := none, hasDel := false }), #[some (.ref 173), none, some (.str "BytesIO" 746), some (.str "BytesIO" 754), some .none, some (.bool true)]⟩),
  (646, ⟨.type "dict", none, (.dict #[⟨PyData.keyHash P "__module__", .str "__module__" 1015, .str "_io" 1020⟩, ⟨PyData.keyHash P "__firstlineno__", .str "__firstlineno__" 1019, .int 312 1018⟩, ⟨PyData.keyHash P "__init__", .str "__init__" 1032, .ref 417⟩, ⟨PyData.keyHash P "_StringIO__translated", .str "_StringIO__translated" 1041, .ref 424⟩, ⟨PyData.keyHash P "_StringIO__check", .str "_StringIO__check" 1048, .ref 431⟩, ⟨PyData.keyHash P "_StringIO__check_dot", .str "_StringIO__check_dot" 1055, .ref 438⟩, ⟨PyData.keyHash P "_StringIO__line", .str "_StringIO__line" 1070, .ref 445⟩, ⟨PyData.keyHash P "closed", .str "closed" 1078, .ref 453⟩, ⟨PyData.keyHash P "line_buffering", .str "line_buffering" 1086, .ref 461⟩, ⟨PyData.keyHash P "newlines", .str "newlines" 1094, .ref 469⟩, ⟨PyData.keyHash P "encoding", .str "encoding" 1102, .ref 477⟩, ⟨PyData.keyHash P "errors", .str "errors" 1110, .ref 485⟩, ⟨PyData.keyHash P "close", .str "close" 1117, .ref 492⟩, ⟨PyData.keyHash P "__enter__", .str "__enter__" 1124, .ref 499⟩, ⟨PyData.keyHash P "__exit__", .str "__exit__" 1132, .ref 506⟩, ⟨PyData.keyHash P "readable", .str "readable" 1139, .ref 513⟩, ⟨PyData.keyHash P "writable", .str "writable" 1146, .ref 520⟩, ⟨PyData.keyHash P "seekable", .str "seekable" 1153, .ref 527⟩, ⟨PyData.keyHash P "isatty", .str "isatty" 1160, .ref 534⟩, ⟨PyData.keyHash P "flush", .str "flush" 1167, .ref 541⟩, ⟨PyData.keyHash P "fileno", .str "fileno" 1174, .ref 548⟩, ⟨PyData.keyHash P "detach", .str "detach" 1181, .ref 555⟩, ⟨PyData.keyHash P "getvalue", .str "getvalue" 1188, .ref 562⟩, ⟨PyData.keyHash P "tell", .str "tell" 1195, .ref 569⟩, ⟨PyData.keyHash P "seek", .str "seek" 1205, .ref 577⟩, ⟨PyData.keyHash P "truncate", .str "truncate" 1213, .ref 585⟩, ⟨PyData.keyHash P "read", .str "read" 1225, .ref 593⟩, ⟨PyData.keyHash P "readline", .str "readline" 1235, .ref 601⟩, ⟨PyData.keyHash P "readlines", .str "readlines" 1245, .ref 609⟩, ⟨PyData.keyHash P "__iter__", .str "__iter__" 1252, .ref 616⟩, ⟨PyData.keyHash P "__next__", .str "__next__" 1260, .ref 623⟩, ⟨PyData.keyHash P "write", .str "write" 1272, .ref 630⟩, ⟨PyData.keyHash P "writelines", .str "writelines" 1280, .ref 637⟩, ⟨PyData.keyHash P "__repr__", .str "__repr__" 1287, .ref 644⟩, ⟨PyData.keyHash P "__static_attributes__", .str "__static_attributes__" 1291, .ref 645⟩, ⟨PyData.keyHash P "__doc__", .str "__doc__" 1292, .none⟩] 2), #[]⟩),
  (647, ⟨.type "type", none, (.cls { name := "StringIO", bases := [.ref 170], mro := [.ref 647, .ref 170, .ref 143, .type "object"], ns := 646, qualname := "StringIO", hasDict := true, slotNames := [], subclasses := [], abstract := false, collection := none, hasDel := false }), #[some (.ref 403), none, some (.str "StringIO" 1008), some (.str "StringIO" 1016), some .none, some (.bool true)]⟩),
  (410, ⟨.type "tuple", none, (.seq #[.str "" 1022, .str ⟨#[10]⟩ 1023] 0), #[]⟩),
  (416, ⟨.type "code", none, (.fields #[.str "__init__" 1024, .str "StringIO.__init__" 1025, .str "/claim/cut.py" 1026, .int 315 0, .int 3 0, .int 0 0, .int 0 0, .int 3 0, .ref 411, .bool true, .int 318 0, .ref 412, .none, .ref 413, .ref 414, .ref 415, .int 1030 0, .int 315 0, .str "/claim/cut.py" 1031]), #[]⟩),
  (417, ⟨.type "function", none, (.func (fnOf "__init__" "StringIO.__init__" (fPars (stIn 25 1)) (fBody (stIn 25 1)) (fScope (stIn 25 1)) (.ref 410) .none .none (.str "io" 638) none (.ref 416) .none)), #[]⟩),
  (423, ⟨.type "code", none, (.fields #[.str "__translated" 1033, .str "StringIO.__translated" 1034, .str "/claim/cut.py" 1035, .int 328 0, .int 2 0, .int 0 0, .int 0 0, .int 3 0, .ref 418, .bool true, .int 318 0, .ref 419, .none, .ref 420, .ref 421, .ref 422, .int 1039 0, .int 328 0, .str "/claim/cut.py" 1040]), #[]⟩),
  (424, ⟨.type "function", none, (.func (fnOf "__translated" "StringIO.__translated" (fPars (stIn 25 2)) (fBody (stIn 25 2)) (fScope (stIn 25 2)) .none .none .none (.str "io" 638) none (.ref 423) .none)), #[]⟩),
  (430, ⟨.type "code", none, (.fields #[.str "__check" 1042, .str "StringIO.__check" 1043, .str "/claim/cut.py" 1044, .int 336 0, .int 1 0, .int 0 0, .int 0 0, .int 3 0, .ref 425, .bool true, .int 318 0, .ref 426, .none, .ref 427, .ref 428, .ref 429, .int 1046 0, .int 336 0, .str "/claim/cut.py" 1047]), #[]⟩),
  (431, ⟨.type "function", none, (.func (fnOf "__check" "StringIO.__check" (fPars (stIn 25 3)) (fBody (stIn 25 3)) (fScope (stIn 25 3)) .none .none .none (.str "io" 638) none (.ref 430) .none)), #[]⟩),
  (586, ⟨.type "tuple", none, (.seq #[.int (-1) 1215] 0), #[]⟩),
  (592, ⟨.type "code", none, (.fields #[.str "read" 1216, .str "StringIO.read" 1217, .str "/claim/cut.py" 1218, .int 458 0, .int 2 0, .int 2 0, .int 0 0, .int 3 0, .ref 587, .bool true, .int 318 0, .ref 588, .none, .ref 589, .ref 590, .ref 591, .int 1223 0, .int 458 0, .str "/claim/cut.py" 1224]), #[]⟩),
  (593, ⟨.type "function", none, (.func (fnOf "read" "StringIO.read" (fPars (stIn 25 25)) (fBody (stIn 25 25)) (fScope (stIn 25 25)) (.ref 586) .none .none (.str "io" 638) none (.ref 592) .none)), #[]⟩),
  (781, ⟨.type "dict", none, (.dict #[⟨PyData.keyHash P "__module__", .str "__module__" 1362, .str "cpy313.shlex" 1353⟩, ⟨PyData.keyHash P "__firstlineno__", .str "__firstlineno__" 1366, .int 581 1365⟩, ⟨PyData.keyHash P "__init__", .str "__init__" 1378, .ref 706⟩, ⟨PyData.keyHash P "punctuation_chars", .str "punctuation_chars" 1386, .ref 714⟩, ⟨PyData.keyHash P "push_token", .str "push_token" 1394, .ref 721⟩, ⟨PyData.keyHash P "push_source", .str "push_source" 1403, .ref 729⟩, ⟨PyData.keyHash P "pop_source", .str "pop_source" 1410, .ref 736⟩, ⟨PyData.keyHash P "get_token", .str "get_token" 1422, .ref 743⟩, ⟨PyData.keyHash P "read_token", .str "read_token" 1433, .ref 750⟩, ⟨PyData.keyHash P "sourcehook", .str "sourcehook" 1441, .ref 757⟩, ⟨PyData.keyHash P "error_leader", .str "error_leader" 1450, .ref 765⟩, ⟨PyData.keyHash P "__iter__", .str "__iter__" 1457, .ref 772⟩, ⟨PyData.keyHash P "__next__", .str "__next__" 1465, .ref 779⟩, ⟨PyData.keyHash P "__static_attributes__", .str "__static_attributes__" 1486, .ref 780⟩, ⟨PyData.keyHash P "__dict__", .str "__dict__" 1488, .ref 783⟩, ⟨PyData.keyHash P "__weakref__", .str "__weakref__" 1490, .ref 784⟩, ⟨PyData.keyHash P "__doc__", .str "__doc__" 1491, .none⟩] 4), #[]⟩),
  (782, ⟨.type "type", none, (.cls { name := "shlex", bases := [.type "object"], mro := [.ref 782, .type "object"], ns := 781, qualname := "shlex", hasDict := true, slotNames := [], subclasses := [], abstract := false, collection := none, hasDel := false }), #[none, none, some (.str "shlex" 1355), some (.str "shlex" 1363), some (.builtin "object.__new__"), some (.bool true)]⟩),
  (783, ⟨.type "getset_descriptor", none, (.fields #[.str "__dict__" 1487, .ref 782, .builtin "function.__dict__", .builtin "function.__dict__#set"]), #[]⟩),
  (784, ⟨.type "getset_descriptor", none, (.fields #[.str "__weakref__" 1489, .ref 782, .builtin "ExceptionGroup.__weakref__", .none]), #[]⟩),
  (785, ⟨.type "super", none, (.fields #[.ref 782, .ref 782, .ref 782]), #[]⟩),
  (786, ⟨.type "builtin_function_or_method", none, (.fields #[.builtin "object.__init_subclass__", .ref 782]), #[]⟩),
  (699, ⟨.type "tuple", none, (.seq #[.none, .none, .bool false, .bool false] 0), #[]⟩),
  (705, ⟨.type "code", none, (.fields #[.str "__init__" 1367, .str "shlex.__init__" 1368, .str "/claim/cut.py" 1369, .int 583 0, .int 5 0, .int 0 0, .int 0 0, .int 3 0, .ref 700, .bool true, .int 318 0, .ref 701, .none, .ref 702, .ref 703, .ref 704, .int 1376 0, .int 583 0, .str "/claim/cut.py" 1377]), #[]⟩),
  (706, ⟨.type "function", none, (.func (fnOf "__init__" "shlex.__init__" (fPars (stIn 34 0)) (fBody (stIn 34 0)) (fScope (stIn 34 0)) (.ref 699) .none .none (.str "cpy313.shlex" 1353) none (.ref 705) .none)), #[]⟩),
  (712, ⟨.type "code", none, (.fields #[.str "punctuation_chars" 1379, .str "shlex.punctuation_chars" 1380, .str "/claim/cut.py" 1381, .int 624 0, .int 1 0, .int 0 0, .int 0 0, .int 3 0, .ref 707, .bool true, .int 318 0, .ref 708, .none, .ref 709, .ref 710, .ref 711, .int 1383 0, .int 624 0, .str "/claim/cut.py" 1384]), #[]⟩),
  (713, ⟨.type "function", none, (.func (fnOf "punctuation_chars" "shlex.punctuation_chars" (fPars (stIn 34 1)) (fBody (stIn 34 1)) (fScope (stIn 34 1)) .none .none .none (.str "cpy313.shlex" 1353) none (.ref 712) .none)), #[]⟩),
  (714, ⟨.type "property", none, (.fields #[.ref 713, .none, .none, .none, .str "punctuation_chars" 1386, .bool false]), #[]⟩),
  (742, ⟨.type "code", none, (.fields #[.str "get_token" 1411, .str "shlex.get_token" 1412, .str "/claim/cut.py" 1413, .int 651 0, .int 1 0, .int 0 0, .int 0 0, .int 3 0, .ref 737, .bool true, .int 318 0, .ref 738, .none, .ref 739, .ref 740, .ref 741, .int 1420 0, .int 651 0, .str "/claim/cut.py" 1421]), #[]⟩),
  (743, ⟨.type "function", none, (.func (fnOf "get_token" "shlex.get_token" (fPars (stIn 34 5)) (fBody (stIn 34 5)) (fScope (stIn 34 5)) .none .none .none (.str "cpy313.shlex" 1353) none (.ref 742) .none)), #[]⟩),
  (749, ⟨.type "code", none, (.fields #[.str "read_token" 1423, .str "shlex.read_token" 1424, .str "/claim/cut.py" 1425, .int 678 0, .int 1 0, .int 0 0, .int 0 0, .int 3 0, .ref 744, .bool true, .int 318 0, .ref 745, .none, .ref 746, .ref 747, .ref 748, .int 1431 0, .int 678 0, .str "/claim/cut.py" 1432]), #[]⟩),
  (750, ⟨.type "function", none, (.func (fnOf "read_token" "shlex.read_token" (fPars (stIn 34 6)) (fBody (stIn 34 6)) (fScope (stIn 34 6)) .none .none .none (.str "cpy313.shlex" 1353) none (.ref 749) .none)), #[]⟩),
  (771, ⟨.type "code", none, (.fields #[.str "__iter__" 1451, .str "shlex.__iter__" 1452, .str "/claim/cut.py" 1453, .int 825 0, .int 1 0, .int 0 0, .int 0 0, .int 3 0, .ref 766, .bool true, .int 318 0, .ref 767, .none, .ref 768, .ref 769, .ref 770, .int 1455 0, .int 825 0, .str "/claim/cut.py" 1456]), #[]⟩),
  (772, ⟨.type "function", none, (.func (fnOf "__iter__" "shlex.__iter__" (fPars (stIn 34 9)) (fBody (stIn 34 9)) (fScope (stIn 34 9)) .none .none .none (.str "cpy313.shlex" 1353) none (.ref 771) .none)), #[]⟩),
  (778, ⟨.type "code", none, (.fields #[.str "__next__" 1458, .str "shlex.__next__" 1459, .str "/claim/cut.py" 1460, .int 828 0, .int 1 0, .int 0 0, .int 0 0, .int 3 0, .ref 773, .bool true, .int 318 0, .ref 774, .none, .ref 775, .ref 776, .ref 777, .int 1463 0, .int 828 0, .str "/claim/cut.py" 1464]), #[]⟩),
  (779, ⟨.type "function", none, (.func (fnOf "__next__" "shlex.__next__" (fPars (stIn 34 10)) (fBody (stIn 34 10)) (fScope (stIn 34 10)) .none .none .none (.str "cpy313.shlex" 1353) none (.ref 778) .none)), #[]⟩),
  (787, ⟨.type "tuple", none, (.seq #[.bool false, .bool true] 0), #[]⟩),
  (793, ⟨.type "code", none, (.fields #[.str "split" 1494, .str "split" 1495, .str "/claim/cut.py" 1496, .int 833 0, .int 3 0, .int 0 0, .int 0 0, .int 3 0, .ref 788, .bool true, .int 318 0, .ref 789, .none, .ref 790, .ref 791, .ref 792, .int 1501 0, .int 833 0, .str "/claim/cut.py" 1502]), #[]⟩),
  (794, ⟨.type "function", none, (.func (fnOf "split" "split" (fPars (stAt 35)) (fBody (stAt 35)) (fScope (stAt 35)) (.ref 787) .none .none (.str "cpy313.shlex" 1353) none (.ref 793) .none)), #[]⟩),
  (798, ⟨.type "code", none, (.fields #[.str "_law_items" 1506, .str "_law_items" 1507, .str "/claim/cut.py" 1508, .int 842 0, .int 1 0, .int 0 0, .int 0 0, .int 3 0, .ref 795, .bool true, .int 318 0, .ref 796, .none, .none, .none, .ref 797, .int 1509 0, .int 842 0, .str "/claim/cut.py" 1510]), #[]⟩),
  (799, ⟨.type "function", none, (.func (fnOf "_law_items" "_law_items" (fPars (stAt 37)) (fBody (stAt 37)) (fScope (stAt 37)) .none .none .none (.str "law_il0193_02" 1504) none (.ref 798) .none)), #[]⟩),
  (803, ⟨.type "code", none, (.fields #[.str "_law_told" 1512, .str "_law_told" 1513, .str "/claim/cut.py" 1514, .int 858 0, .int 2 0, .int 0 0, .int 0 0, .int 3 0, .ref 800, .bool true, .int 318 0, .ref 801, .none, .none, .none, .ref 802, .int 1515 0, .int 858 0, .str "/claim/cut.py" 1516]), #[]⟩),
  (804, ⟨.type "function", none, (.func (fnOf "_law_told" "_law_told" (fPars (stAt 38)) (fBody (stAt 38)) (fScope (stAt 38)) .none .none .none (.str "law_il0193_02" 1504) none (.ref 803) .none)), #[]⟩),
  (810, ⟨.type "code", none, (.fields #[.str "law" 1518, .str "law" 1519, .str "/claim/cut.py" 1520, .int 880 0, .int 1 0, .int 0 0, .int 0 0, .int 3 0, .ref 805, .bool true, .int 318 0, .ref 806, .none, .ref 807, .ref 808, .ref 809, .int 1525 0, .int 880 0, .str "/claim/cut.py" 1526]), #[]⟩),
  (811, ⟨.type "function", none, (.func (fnOf "law" "law" (fPars (stAt 39)) (fBody (stAt 39)) (fScope (stAt 39)) .none .none .none (.str "law_il0193_02" 1504) none (.ref 810) .none)), #[]⟩)]

noncomputable def glbX : List (Str × Value) := [("len", .builtin "len"), ("isinstance", .builtin "isinstance"), ("str", .type "str"), ("type", .type "type"), ("int", .type "int"), ("bool", .type "bool"), ("chr", .builtin "chr"), ("range", .type "range"), ("list", .type "list"), ("object", .type "object"),
  ("deque", .type "collections.deque"), ("_special_chars_map", .ref 75), ("escape", .ref 85), ("_translate", .ref 92), ("_join_translated_parts", .ref 99), ("twin_re_1_smtplib", .ref 49), ("_twin_re_2", .ref 54), ("CRLF", .str ⟨#[13, 10]⟩ 391),
  ("quotedata", .ref 61), ("translate", .ref 73), ("_index", .ref 113), ("IOBase", .ref 143), ("BytesIO", .ref 400), ("StringIO", .ref 647), ("shlex", .ref 782), ("split", .ref 794), ("_law_items", .ref 799), ("_law_told", .ref 804), ("StopIteration", .type "StopIteration")]
/-- a context of this program -/
structure Good (C : Cx) (n : Nat) : Prop where
  ok : C.Ok
  hK : C.K = KP C.w.params
  hG : C.glb = glbX
  room : C.A.depth + n < 900
noncomputable def spc (c : Nat) : Bool := ([40, 41, 91, 93, 123, 125, 63, 42, 43, 45, 124, 94, 36, 92, 46, 38, 126, 35, 32, 9, 10, 13, 11, 12] : List Nat).contains c
end Mine
end

section
open PySem PySem.W PySem.Calls PyProof.Rows
set_option Elab.async false
set_option maxRecDepth 100000
set_option autoImplicit false
set_option linter.unusedVariables false
set_option maxHeartbeats 200000
namespace Mine
noncomputable abbrev cX (prog : Program) (w : World) (A : Around) (g : Heap) (L : Addr) (name : Str) (scope : Scope) (fa : Addr) (cd : Value) (cells : List (Str × Addr)) (cvs : List (Str × SV)) (os : OsState) (ban : List Addr) (outs : List (Addr × Obj)) (oenv : List Env) : Cx :=
  ⟨prog, w, A, g, L, name, scope, fa, cd, cells, KP w.params, cvs, glbX, os, ban, outs, oenv⟩
theorem Good.elim {C : Cx} {n : Nat} (G : Good C n) {P : Cx → Prop} (h : ∀ prog w A g L name scope fa cd cells cvs os ban outs oenv, (cX prog w A g L name scope fa cd cells cvs os ban outs oenv).Ok → A.depth + n < 900 → P (cX prog w A g L name scope fa cd cells cvs os ban outs oenv)) : P C := by
  obtain ⟨ok, hK, hG, hroom⟩ := G
  obtain ⟨prog, w, A, g, L, name, scope, fa, cd, cells, K, cvs, glb, os, ban, outs, oenv⟩ := C
  dsimp only at hK hG
  subst hK hG
  exact h _ _ _ _ _ _ _ _ _ _ _ _ _ _ _ ok hroom
theorem Fin.pure {C : Cx} {st st2 : St} {v : SV} {Q : SV → St → Prop} (h : Q v st) : Fin C st [] [] Q (.ret v) st2 := ⟨[], [], v, List.nil_sublist _, rfl, fun _ _ h => h, by simpa [rk, msets] using h⟩

noncomputable def mapA : Array DictEntry := #[⟨40, .int 40 452, .str ⟨#[92, 40]⟩ 456⟩, ⟨41, .int 41 458, .str ⟨#[92, 41]⟩ 462⟩, ⟨91, .int 91 464, .str ⟨#[92, 91]⟩ 468⟩, ⟨93, .int 93 470, .str ⟨#[92, 93]⟩ 474⟩, ⟨123, .int 123 476, .str ⟨#[92, 123]⟩ 480⟩, ⟨125, .int 125 482, .str ⟨#[92, 125]⟩ 486⟩, ⟨63, .int 63 488, .str ⟨#[92, 63]⟩ 492⟩, ⟨42, .int 42 494, .str ⟨#[92, 42]⟩ 498⟩, ⟨43, .int 43 500, .str ⟨#[92, 43]⟩ 504⟩, ⟨45, .int 45 506, .str ⟨#[92, 45]⟩ 510⟩, ⟨124, .int 124 512, .str ⟨#[92, 124]⟩ 516⟩, ⟨94, .int 94 518, .str ⟨#[92, 94]⟩ 522⟩, ⟨36, .int 36 524, .str ⟨#[92, 36]⟩ 528⟩, ⟨92, .int 92 530, .str ⟨#[92, 92]⟩ 534⟩, ⟨46, .int 46 536, .str ⟨#[92, 46]⟩ 540⟩, ⟨38, .int 38 542, .str ⟨#[92, 38]⟩ 546⟩, ⟨126, .int 126 548, .str ⟨#[92, 126]⟩ 552⟩, ⟨35, .int 35 554, .str ⟨#[92, 35]⟩ 558⟩, ⟨32, .int 32 560, .str ⟨#[92, 32]⟩ 564⟩, ⟨9, .int 9 566, .str ⟨#[92, 9]⟩ 570⟩, ⟨10, .int 10 572, .str ⟨#[92, 10]⟩ 576⟩, ⟨13, .int 13 578, .str ⟨#[92, 13]⟩ 582⟩, ⟨11, .int 11 584, .str ⟨#[92, 11]⟩ 588⟩, ⟨12, .int 12 590, .str ⟨#[92, 12]⟩ 594⟩]
noncomputable def mapF (c : Int) : Option Value := findBy Value.isInt mapA c
noncomputable def mapChk (c : Nat) : Bool := match spc c, mapF c with
  | true, some (.str x _) => x == ⟨#[92, c]⟩
  | false, none => true
  | _, _ => false
theorem mapChk_all : ((List.range 128).all mapChk) = true := by decide +kernel
theorem mapKeys : (mapA.toList.all fun e => match e.key with | .int i _ => e.hash == hashInt i && decide (i < 128) | _ => false) = true := by decide +kernel
theorem spc_big {c : Nat} (h : ¬ c < 128) : spc c = false := by
  cases q : spc c with
  | false => rfl
  | true =>
    unfold spc at q
    rw [List.contains_iff_mem] at q
    have : (([40, 41, 91, 93, 123, 125, 63, 42, 43, 45, 124, 94, 36, 92, 46, 38, 126, 35, 32, 9, 10, 13, 11, 12] : List Nat).all fun c => decide (c < 128)) = true := by decide
    have := List.all_eq_true.mp this c q
    simp at this; lia
theorem mapF_ok (c : Nat) : match spc c with | true => ∃ t, mapF c = some (.str ⟨#[92, c]⟩ t) | false => mapF c = none := by
  by_cases h : c < 128
  · have := List.all_eq_true.mp mapChk_all c (List.mem_range.mpr h)
    unfold mapChk at this
    split at this
    · rename_i x t e1 e2
      refine rg e1 ?_
      have e : x = ⟨#[92, c]⟩ := by simpa using this
      subst e
      exact ⟨t, e2⟩
    · rename_i e1 e2
      refine rg e1 ?_; exact e2
    · exact ftE this
  · refine rg (spc_big h) ?_
    refine (?_ : findBy Value.isInt mapA c = none)
    unfold findBy
    rw [Option.map_eq_none_iff, Array.find?_eq_none]
    intro e he
    have := List.all_eq_true.mp mapKeys e (Array.mem_toList_iff.mpr he)
    split at this
    · rename_i i t hk
      refine rg hk ?_
      simp at this
      simp [Value.isInt]
      lia
    · exact ftE this
theorem mapM (P : Params) (prog : Program) (w : World) {h : Heap} (X : (KP P).In h) : h.MapOf (intKind prog w) 75 mapF := by
  refine ⟨_, mapA, 24, X 75 _ rfl, ⟨rfl, rfl, rfl⟩, rfl, ?_, fun k => rfl⟩
  intro e he
  have := List.all_eq_true.mp mapKeys e (Array.mem_toList_iff.mpr he)
  split at this
  · rename_i i t hk
    simp at this
    exact ⟨i, by refine rg hk ?_; simp [intKind, Value.isInt], this.1⟩
  · exact ftE this
section
variable {prog : Program} {w : World} {A : Around} {g : Heap} {L : Addr} {fa : Addr} {name : Str} {cd : Value} {os : OsState} {ban : List Addr} {outs : List (Addr × Obj)} {oenv : List Env} {Q : SF → St → Prop}
theorem escape_body {c : Nat} {cc : Bool} (hQ : ∀ st, Q (.ret (.str false (esc1 spc c))) st) (ok : (cX prog w A g L name (fScope (stAt 13)) fa cd [] [] os ban outs oenv).Ok) :
    Es (cX prog w A g L name (fScope (stAt 13)) fa cd [] [] os ban outs oenv) (execs (fBody (stAt 13)) (Cx.env (cX prog w A g L name (fScope (stAt 13)) fa cd [] [] os ban outs oenv))) ⟨[("pattern", .str cc [c])], [], 0⟩ Q := by
  refine blkR_ok (ev_ok ok 30) _ _ _ ?_
  refine ⟨rfl, Cl.isinst_str ?_⟩
  refine Me.translate ⟨rfl, ?_⟩
  exact Cl.translate1 ok (f := mapF) (sp := spc) (mapM _ _ _ ok.X) (mapF_ok _) (by decide) (hQ _)
end
theorem escape_cl {C : Cx} (G : Good C 1) {c : Nat} {cc : Bool} {st : St} {Q : SV → St → Prop} (h : Q (.str false (esc1 spc c)) st) : Cl C (.con (.ref 85)) [.str cc [c]] [] st Q := by
  refine G.elim (P := fun C => Cl C (.con (.ref 85)) [.str cc [c]] [] st Q) fun prog w A g L name scope fa cd cells cvs os ban outs oenv ok hroom => ?_
  refine Cu.cl (Cu.user ok rfl .rfl (loc := [("pattern", .str cc [c])]) (fk := []) (ft := []) (show (KP w.params).lookup 85 = some _ from rfl) rfl hroom .nil rfl ?_ rfl (by simp) ?_ ?_)
  · intro R s ws ks r hw hk
    refine ⟨ws, hw, ?_⟩
    obtain ⟨v, t, rfl, h1, h2⟩ := hw.uncons
    have := h2.unnil; subst this
    have := hk.unnil; subst this
    exact BindsTo.of_eq rfl
  · decide +kernel
  · intro A g L ban outs ok' hA
    exact escape_body (fun st => Fin.pure h) ok'
end Mine
end

section
open PySem PySem.W PySem.Calls PyProof.Rows
set_option Elab.async false
set_option maxRecDepth 100000
set_option autoImplicit false
set_option linter.unusedVariables false
set_option maxHeartbeats 200000
namespace Mine
noncomputable abbrev S := List Nat
noncomputable def tsv (aS : Addr) : Option S → SV
  | none => .ref 100 aS
  | some s => .str false s
noncomputable def codes (s : String) : S := (Str.ofString s).cps.toList
/-- the parts of a text without sets -/
noncomputable def partsF : Bool → S → List (Option S)
  | _, [] => []
  | last, c :: r => if c = 42 then (if last = true then partsF true r else none :: partsF true r) else (if c = 63 then some [46] else some (esc1 spc c)) :: partsF false r
noncomputable def endStar (ps : List (Option S)) : Bool := match ps.getLast? with | some none => true | _ => false
theorem endStar_snoc (ps : List (Option S)) (y : Option S) : endStar (ps ++ [y]) = match y with | none => true | some _ => false := by
  unfold endStar; refine rg (List.getLast?_append) ?_; induction y <;> rfl
theorem Fin.newL {C : Cx} {st st2 : St} {Q : SV → St → Prop} {a : Addr} {k : Nat} {xs : List SV} (h : newL st xs Q a) (hm : List.Sublist [(⟨k, a, .list xs⟩ : Cell)] st2.mem) : Fin C st [] [] Q (.ret (.ref k a)) st2 :=
  ⟨[⟨k, a, .list xs⟩], [], .ref st.nk a, by simpa using hm, rfl, fun R x h => by cases h; exact .ref, by simpa [rk, msets, Mine.newL] using h⟩
theorem listAt {xs l r : List SV} {x : SV} {i : Int} (e : xs = l ++ x :: r) (hz : xs.length ≤ 100000) (hi : i = l.length) : itemAt xs i x := by
  subst e hi
  refine .inl ⟨by lia, ?_, by simp⟩
  simp at hz; unfold szB; lia
theorem strIx {x l r : S} {c : Nat} {i : Int} (e : x = l ++ c :: r) (hz : x.length ≤ 100000) (hi : i = l.length) : 0 ≤ i ∧ i < szB ∧ x[i.toNat]? = some c := by
  subst e hi
  refine ⟨by lia, ?_, by simp⟩
  simp at hz; unfold szB; lia
theorem listLast {xs l : List SV} {x : SV} (e : xs = l ++ [x]) (hz : xs.length ≤ 100000) : itemAt xs (-1) x := by
  subst e
  simp at hz
  refine .inr ⟨by lia, by simp; lia, by simp; unfold szB; lia, ?_⟩
  have : ((-1 : Int) + ((l ++ [x]).length : Nat)).toNat = l.length := by simp; lia
  refine rg this ?_; simp
theorem eq1 {c k : Nat} (h : eqL [c] [k] = true) : c = k := (List.cons.inj (eqL_iff.mp h)).1
theorem ne1 {c k : Nat} (h : eqL [c] [k] = false) : c ≠ k := fun q => by subst q; replace h := (show eqL [c] [c] = true from eqL_iff.mpr rfl) ▸ h; exact tfE h
theorem addPart {d r x : S} {c : Nat} {ps : List (Option S)} {y : Option S} (h : ps ++ partsF (endStar ps) (c :: r) = partsF false x) (e : partsF (endStar ps) (c :: r) = y :: partsF (match y with | none => true | some _ => false) r) :
    (ps ++ [y]) ++ partsF (endStar (ps ++ [y])) r = partsF false x := by
  refine rg (endStar_snoc ..) (rl (h ..) (rg (e ..) ?_)); simp
theorem Strs.weak {R : Frz} {xs : List SV} {c : Bool} {y : S} {vs : List Value} (h : VRs R (xs ++ [.str c y]) vs) : VRs R (xs ++ [.str false y]) vs := by
  refine ⟨by refine rl h.len ?_; simp, fun i x v a b => ?_⟩
  replace a := (List.getElem?_append) ▸ a
  split at a
  · rename_i q; exact h.at_ i x v (by refine rg (List.getElem?_append_left q) ?_; exact a) b
  · rename_i q
    have hi : i - xs.length = 0 := by
      cases e : i - xs.length with
      | zero => rfl
      | succ n => replace a := e ▸ a; simp at a
    replace a := hi ▸ a; simp at a; subst a
    have := h.at_ i (.str c y) v (by refine rg (List.getElem?_append_right (by lia)) (rg hi ?_); rfl) b
    cases this; exact .str
/-! the states and the loop's promise, named -/
noncomputable abbrev tSt (aS a1 : Addr) (x : S) (i : Int) (ps : List (Option S)) : St :=
  ⟨[("pat", .str false x), ("STAR", .ref 100 aS), ("QUESTION_MARK", .str true [46]), ("res", .ref 0 a1), ("add", .bm 0 a1 "list.append"), ("n", .int false x.length), ("i", .int false i)], [⟨0, a1, .list (ps.map (tsv aS))⟩], 1⟩
noncomputable def tP (aS : Addr) (x : S) (st : St) : Prop := ∃ a1, st = tSt aS a1 x x.length (partsF false x)
noncomputable def tI (aS a1 : Addr) (x : S) (n : Nat) (st : St) : Prop := ∃ d r ps, x = d ++ r ∧ n = r.length ∧ ps.length ≤ d.length ∧ ps ++ partsF (endStar ps) r = partsF false x ∧ st = tSt aS a1 x d.length ps
section
variable {prog : Program} {w : World} {A : Around} {g : Heap} {L : Addr} {fa : Addr} {name : Str} {cd : Value} {os : OsState} {ban : List Addr} {outs : List (Addr × Obj)} {oenv : List Env} {Q : SF → St → Prop} {aS : Addr}
theorem translate0_body {x : S} (hx : 91 ∉ x) (hz : x.length ≤ 10000) (hA : A.depth + 1 < 900)
    (hQ : ∀ a k st, List.Sublist [(⟨k, a, .list ((partsF false x).map (tsv aS))⟩ : Cell)] st.mem → Q (.ret (.ref k a)) st) (ok : (cX prog w A g L name (fScope (stAt 15)) fa cd [] [] os ban outs oenv).Ok) :
    Es (cX prog w A g L name (fScope (stAt 15)) fa cd [] [] os ban outs oenv) (execs (fBody (stAt 15)) (Cx.env (cX prog w A g L name (fScope (stAt 15)) fa cd [] [] os ban outs oenv)))
      ⟨[("pat", .str false x), ("STAR", .ref 100 aS), ("QUESTION_MARK", .str true [46])], [], 0⟩ Q := by
  have G : Good (cX prog w A g L name (fScope (stAt 15)) fa cd [] [] os ban outs oenv) 1 := ⟨ok, rfl, rfl, hA⟩
  refine Es.cut ok 30 4 (tP aS x) ?_ ?_
  · intro a1
    refine Ga.append ok ⟨rfl, rfl, rfl, Cl.len_str ?_ ?_⟩
    · unfold szB; lia
    refine ⟨tI aS a1 x, ⟨_, _, ?_, [], x, [], rfl, rfl, by simp, rfl, rfl⟩, ?_⟩
    · exact Le.mk (.cons .rfl (.cons .rfl (.cons .rfl (.cons .rfl (.cons .rfl (.cons .rfl (.cons (.int rfl) .nil))))))) .rfl
    rintro n st ⟨d, r, ps, hd, hn, hl, hp, rfl⟩
    refine ⟨fun hlt => ?_, fun hge => ?_⟩
    · induction r with
      | nil => simp at hd; subst hd; simp at hlt
      | cons c r =>
        have hdl : d.length < x.length := by refine rg hd ?_; simp
        have hc : c ≠ 91 := fun q => hx (by refine rg hd (rg q ?_); simp)
        obtain ⟨h0, h1, h2⟩ := strIx hd (by lia) rfl
        refine ⟨c, h0, h1, h2, ?_⟩
        have nxt : ∀ (ps' : List (Option S)) (l : List (Str × SV)) st2, st2 = (⟨("pat", .str false x) :: ("STAR", .ref 100 aS) :: ("QUESTION_MARK", .str true [46]) :: ("res", .ref 0 a1) :: ("add", .bm 0 a1 "list.append") :: ("n", .int false x.length) :: ("i", .int false (d.length + 1)) :: l,
            [⟨0, a1, .list (ps'.map (tsv aS))⟩], 1⟩ : St) → ps'.length ≤ d.length + 1 → ps' ++ partsF (endStar ps') r = partsF false x →
            ∃ m st3, m < n ∧ Le (cX prog w A g L name (fScope (stAt 15)) fa cd [] [] os ban outs oenv) st2 st3 ∧ tI aS a1 x m st3 := by
          rintro ps' l _ rfl q1 q2
          refine ⟨r.length, _, by subst hn; simp, ?_, d ++ [c], r, ps', by refine rg hd ?_; simp, rfl, by simpa using q1, q2, rfl⟩
          exact Le.mk (.cons .rfl (.cons .rfl (.cons .rfl (.cons .rfl (.cons .rfl (.cons .rfl (.cons (.int (by simp)) .drop))))))) .rfl
        refine ⟨fun hs => ?_, fun hs => ?_⟩
        · obtain rfl : c = 42 := eq1 hs
          have hpl : ps.length ≤ 10000 := by lia
          rcases List.eq_nil_or_concat ps with rfl | ⟨ps, y, rfl⟩
          · refine ⟨rfl, Nat.zero_le _, fun q => (by exact ftE q), fun _ => ?_⟩
            refine ⟨rfl, Cl.bappend ok ⟨rfl, Nat.zero_le _, ?_⟩⟩
            exact nxt [none] _ _ rfl (by simp) (addPart (y := none) (d := d) hp rfl)
          · rw [List.concat_eq_append] at hp hl hpl ⊢
            refine ⟨rfl, by simp at hpl ⊢; unfold szB; lia, fun _ => ?_, fun q => ?_⟩
            rotate_left
            · replace q := List.map_append ▸ q; induction ps <;> exact tfE q
            refine ⟨rfl, tsv aS y, listLast (by refine rg List.map_append ?_; rfl) (by simp at hpl ⊢; lia), ?_⟩
            induction y with
            | none =>
              refine ⟨rfl, ?_⟩
              have e : partsF (endStar (ps ++ [none])) (42 :: r) = partsF (endStar (ps ++ [none])) r := by refine rg (endStar_snoc ..) ?_; rfl
              exact nxt (ps ++ [none]) _ _ rfl (by simp at hl ⊢; lia) (by refine rl e ?_; exact hp)
            | some u =>
              refine ⟨rfl, Cl.bappend ok ⟨rfl, by simp at hpl ⊢; unfold szB; lia, ?_⟩⟩
              have e : partsF (endStar (ps ++ [some u])) (42 :: r) = none :: partsF true r := by refine rg (endStar_snoc ..) ?_; rfl
              exact nxt (ps ++ [some u] ++ [none]) _ _ (by refine rg (List.map_append (l₁ := ps ++ [some u])) ?_; rfl) (by simp at hl ⊢; lia) (addPart (y := none) (d := d) hp e)
        · have hs : c ≠ 42 := ne1 hs
          refine ⟨fun hq => ?_, fun hq => ?_⟩
          · obtain rfl : c = 63 := eq1 hq
            refine ⟨rfl, Cl.bappend ok ⟨rfl, by simp; unfold szB; lia, ?_⟩⟩
            have : ps.map (tsv aS) ++ [SV.str true [46]] = ps.map (tsv aS) ++ [SV.str true [46]] := rfl
            refine ⟨r.length, _, by subst hn; simp, ?_, d ++ [63], r, ps ++ [some [46]], by refine rg hd ?_; simp, rfl, by simp; lia, addPart (y := some [46]) (d := d) hp (by rw [partsF, if_neg (by decide), if_pos rfl]), rfl⟩
            refine Le.mk (.cons .rfl (.cons .rfl (.cons .rfl (.cons .rfl (.cons .rfl (.cons .rfl (.cons (.int (by simp)) .drop))))))) (.cons (fun R x h => ?_) .rfl)
            refine rg List.map_append ?_
            cases h with
            | list h => exact .list (Strs.weak h)
          · have hq : c ≠ 63 := ne1 hq
            refine ⟨fun hb => absurd (eq1 hb) hc, fun _ => ?_⟩
            refine ⟨rfl, escape_cl G ?_⟩
            refine ⟨rfl, Cl.bappend ok ⟨rfl, by simp; unfold szB; lia, ?_⟩⟩
            exact nxt (ps ++ [some (esc1 spc c)]) _ _ (by refine rg List.map_append ?_; rfl) (by simp; lia) (addPart (y := some (esc1 spc c)) (d := d) hp (by rw [partsF, if_neg hs, if_neg hq]))
    · have h2 := of_decide_eq_false hge
      have hr : r = [] := by
        induction r with
        | nil => rfl
        | cons => exfalso; replace h2 := hd ▸ h2; simp at h2; lia
      subst hr
      simp only [List.append_nil] at hd
      subst hd
      have hp : ps = partsF false x := by simpa [partsF] using hp
      subst hp
      exact ⟨_, .rfl, a1, rfl⟩
  rintro st ⟨a1, rfl⟩
  refine blkR_ok (ev_ok ok 30) _ _ _ ?_
  refine ⟨fun _ => ?_, fun h => by simp at h⟩
  exact hQ _ _ _ (List.Sublist.refl _)
end
theorem translate0_cl {C : Cx} (G : Good C 2) {x : S} {st : St} {Q : SV → St → Prop} {aS : Addr} (hx : 91 ∉ x) (hz : x.length ≤ 10000) (h : ∀ a, newL st ((partsF false x).map (tsv aS)) Q a) : Cl C (.con (.ref 92)) [.str false x, .ref 100 aS, .str true [46]] [] st Q := by
  refine G.elim (P := fun C => Cl C (.con (.ref 92)) [.str false x, .ref 100 aS, .str true [46]] [] st Q) fun prog w A g L name scope fa cd cells cvs os ban outs oenv ok hroom => ?_
  refine Cu.cl (Cu.user ok rfl .rfl (loc := [("pat", .str false x), ("STAR", .ref 100 aS), ("QUESTION_MARK", .str true [46])]) (fk := []) (ft := []) (show (KP w.params).lookup 92 = some _ from rfl) rfl (show A.depth + 1 < 900 by first | exact dp hroom rfl | exact dp hA rfl | lia) .nil rfl ?_ rfl (by decide +kernel : List.Nodup (["pat", "STAR", "QUESTION_MARK"] : List Str)) ?_ ?_)
  · intro R s ws ks r hw hk
    refine ⟨ws, hw, ?_⟩
    obtain ⟨v, t, rfl, h1, hw⟩ := hw.uncons
    obtain ⟨v, t, rfl, h1, hw⟩ := hw.uncons
    obtain ⟨v, t, rfl, h1, h2⟩ := hw.uncons
    have := h2.unnil; subst this
    have := hk.unnil; subst this
    exact BindsTo.of_eq rfl
  · decide +kernel
  · intro A' g L ban outs ok' hA
    have hA : A'.depth = A.depth + 1 := hA
    exact translate0_body hx hz (by lia) (fun a k st hm => Fin.newL (h a) hm) ok'
end Mine
end

section
open PySem PySem.W PySem.Calls PyProof.Rows
set_option Elab.async false
set_option maxRecDepth 100000
set_option autoImplicit false
set_option genSizeOf false
set_option genInjectivity false
set_option linter.unusedVariables false
set_option maxHeartbeats 200000
namespace Mine
inductive TailJ : List (Option S) → List S → Prop
  | nil : TailJ [] []
  | last : TailJ [none] [codes ".*"]
  | lastf {f : List S} (h : f ≠ []) : TailJ (none :: f.map some) [codes ".*", glue [] f]
  | mid {f : List S} {r : List (Option S)} {out : List S} (h : f ≠ []) (t : TailJ (none :: r) out) : TailJ (none :: (f.map some ++ none :: r)) ((codes "(?>.*?" ++ glue [] f ++ codes ")") :: out)

/-! the states and the loops' promises, named -/
noncomputable abbrev jSt (a aS a1 : Addr) (P : List (Option S)) (i : Int) (o : List S) : St :=
  ⟨[("inp", .ref 0 a), ("STAR", .ref 100 aS), ("res", .ref 1 a1), ("add", .bm 1 a1 "list.append"), ("n", .int false (P.map (tsv aS)).length), ("i", .int false i)], [⟨1, a1, .list (o.map (.str false))⟩, ⟨0, a, .list (P.map (tsv aS))⟩], 2⟩
noncomputable abbrev jSt3 (a aS a1 a2 : Addr) (P : List (Option S)) (i : Int) (o f : List S) : St :=
  ⟨[("inp", .ref 0 a), ("STAR", .ref 100 aS), ("res", .ref 1 a1), ("add", .bm 1 a1 "list.append"), ("n", .int false (P.map (tsv aS)).length), ("i", .int false i), ("fixed", .ref 2 a2)], [⟨2, a2, .list (f.map (.str false))⟩, ⟨1, a1, .list (o.map (.str false))⟩, ⟨0, a, .list (P.map (tsv aS))⟩], 3⟩
noncomputable def jP1 (a aS : Addr) (P : List (Option S)) (pre : List S) (st : St) : Prop := ∃ a1, st = jSt a aS a1 P pre.length pre
noncomputable def jI1 (a aS a1 : Addr) (P : List (Option S)) (pre : List S) (n : Nat) (st : St) : Prop := ∃ d r, pre = d ++ r ∧ n = r.length ∧ st = jSt a aS a1 P d.length d
noncomputable def jP2 (a aS a1 : Addr) (P : List (Option S)) (T : List S) (st : St) : Prop := st = jSt a aS a1 P (P.map (tsv aS)).length T
noncomputable def jI2 (a aS a1 : Addr) (P : List (Option S)) (T : List S) (n : Nat) (st : St) : Prop := ∃ dn r o t, P = dn ++ r ∧ TailJ r t ∧ o ++ t = T ∧ o.length ≤ dn.length + 1000 ∧ n = r.length ∧ st = jSt a aS a1 P dn.length o
noncomputable def jI3 (a aS a1 a2 : Addr) (P : List (Option S)) (F o : List S) (l : Nat) (n : Nat) (st : St) : Prop := ∃ d2 f2, F = d2 ++ f2 ∧ n = f2.length ∧ st = jSt3 a aS a1 a2 P (l + 1 + d2.length) o d2
theorem item_map {aS : Addr} {l r : List (Option S)} {x : Option S} {i : Int} (hz : (l ++ x :: r).length ≤ 1000) (hi : i = l.length) : itemAt ((l ++ x :: r).map (tsv aS)) i (tsv aS x) := by
  subst hi
  refine .inl ⟨by lia, ?_, ?_⟩
  · simp at hz; unfold szB; lia
  · simp

section
variable {prog : Program} {w : World} {A : Around} {g : Heap} {L : Addr} {name : Str} {fa : Addr} {cd : Value} {os : OsState} {ban : List Addr} {outs : List (Addr × Obj)} {oenv : List Env} {a aS a1 : Addr} {Q : SF → St → Prop}
theorem Strs.weak2 {R : Frz} {xs : List SV} {c d : Bool} {y z : S} {vs : List Value} (h : VRs R (xs ++ [.str c y] ++ [.str d z]) vs) : VRs R (xs ++ [.str false y] ++ [.str false z]) vs := by
  have h1 := Strs.weak h
  refine ⟨by refine rl h.len ?_; simp, fun i x v a b => ?_⟩
  replace a := (List.getElem?_append) ▸ a
  split at a
  · rename_i q
    have hv : i < vs.length := by refine rl h.len ?_; simp at q ⊢; lia
    have h2 : VRs R (xs ++ [.str c y]) (vs.take (xs.length + 1)) := by
      refine ⟨by refine rg List.length_take (rl h.len ?_); simp, fun j x v a b => ?_⟩
      have hj := (List.getElem?_eq_some_iff.mp a).1
      replace b := (List.getElem?_take) ▸ b
      split at b
      · exact h.at_ j x v (by refine rg (List.getElem?_append_left hj) ?_; exact a) b
      · cases b
    have h3 := Strs.weak h2
    exact h3.at_ i x v a (by refine rg (List.getElem?_take) (rg (if_pos (by simpa using q)) ?_); exact b)
  · rename_i q; exact h1.at_ i x v (by refine rg (List.getElem?_append_right (by simpa using q)) ?_; simpa using a) b
theorem glue_len (l : List S) : (glue [] l).length = total l := by
  cases l with
  | nil => rfl
  | cons x r =>
    refine (?_ : (glueF [] x r).length = _)
    refine rg (glueF_eq ..) ?_
    simp [total]
theorem total_app (l m : List S) : total (l ++ m) = total l + total m := by simp [total]
theorem total_cons (x : S) (m : List S) : total (x :: m) = x.length + total m := by simp [total]
theorem join_body {pre : List S} {rest : List (Option S)} {out : List S} (ht : TailJ rest out) (hp : (pre.map some ++ rest).length ≤ 1000) (hz : total (pre ++ out) ≤ 100000)
    (hQ : ∀ st, List.Sublist [(⟨0, a, .list ((pre.map some ++ rest).map (tsv aS))⟩ : Cell)] st.mem → Q (.ret (.str false (codes "(?s:" ++ glue [] (pre ++ out) ++ codes ")\\Z"))) st)
    (ok : (cX prog w A g L name (fScope (stAt 16)) fa cd [] [] os ban outs oenv).Ok) :
    Es (cX prog w A g L name (fScope (stAt 16)) fa cd [] [] os ban outs oenv) (execs (fBody (stAt 16)) (Cx.env (cX prog w A g L name (fScope (stAt 16)) fa cd [] [] os ban outs oenv)))
      ⟨[("inp", .ref 0 a), ("STAR", .ref 100 aS)], [⟨0, a, .list ((pre.map some ++ rest).map (tsv aS))⟩], 1⟩ Q := by
  refine Es.cut ok 30 4 (jP1 a aS (pre.map some ++ rest) pre) ?_ ?_
  · intro a1
    refine Ga.append ok ⟨rfl, rfl, rfl, Cl.len_list ⟨rfl, ?_, ?_⟩⟩
    · refine rg (List.length_map ..) ?_; exact upTo hp rfl
    refine ⟨jI1 a aS a1 (pre.map some ++ rest) pre, ⟨_, _, ?_, [], pre, rfl, rfl, rfl⟩, ?_⟩
    · exact Le.mk (.cons .rfl (.cons .rfl (.cons .rfl (.cons .rfl (.cons .rfl (.cons (.int rfl) .nil)))))) .rfl
    rintro n st ⟨d, r, hd, hn, rfl⟩
    have hlen : ((pre.map some ++ rest).map (tsv aS)).length = d.length + r.length + rest.length := by subst hd; simp; lia
    refine ⟨fun hlt => ?_, fun hge => ?_⟩
    · cases r with
      | nil =>
        simp only [List.append_nil] at hd
        subst hd
        cases rest with
        | nil => simp at hlt
        | cons x rest =>
          have hx : x = none := by cases ht <;> rfl
          subst hx
          refine ⟨rfl, _, item_map hp (by simp), rfl, ?_⟩
          exact ⟨_, .rfl, a1, rfl⟩
      | cons x r =>
        subst hd
        have e : (d ++ x :: r).map some ++ rest = d.map some ++ some x :: (r.map some ++ rest) := by simp
        refine ⟨rfl, tsv aS (some x), by refine rg e ?_; exact item_map (by refine rl e ?_; exact hp) (by simp), ?_⟩
        refine ⟨rfl, tsv aS (some x), by refine rg e ?_; exact item_map (by refine rl e ?_; exact hp) (by simp), rfl, ?_⟩
        refine Cl.bappend ok ⟨rfl, by simp at hp; refine rg (List.length_map ..) ?_; unfold szB; lia, ?_⟩
        refine ⟨r.length, _, ?_, ?_, d ++ [x], r, by simp, rfl, rfl⟩
        · subst hn; simp
        · refine Le.mk (.cons .rfl (.cons .rfl (.cons .rfl (.cons .rfl (.cons .rfl (.cons (.int ?_) .nil)))))) (.cons ?_ .rfl)
          · simp
          · intro R x h; simpa [tsv] using h
    · have : r = [] ∧ rest = [] := by
        have h2 := of_decide_eq_false hge
        replace h2 := hlen ▸ h2
        constructor
        · cases r with
          | nil => rfl
          | cons => exfalso; simp at h2; lia
        · cases rest with
          | nil => rfl
          | cons => exfalso; simp at h2; lia
      obtain ⟨rfl, rfl⟩ := this
      simp only [List.append_nil] at hd
      subst hd
      exact ⟨_, .rfl, a1, rfl⟩
  rintro st ⟨a1, rfl⟩
  refine Es.cut ok 30 1 (jP2 a aS a1 (pre.map some ++ rest) (pre ++ out)) ?_ ?_
  · generalize hP : pre.map some ++ rest = P at hp ⊢
    generalize hT : pre ++ out = T at hz ⊢
    refine ⟨jI2 a aS a1 P T, ⟨_, _, ?_, pre.map some, rest, pre, out, hP.symm, ht, hT, by simp, rfl, rfl⟩, ?_⟩
    · exact Le.mk (.cons .rfl (.cons .rfl (.cons .rfl (.cons .rfl (.cons .rfl (.cons (.int (by simp)) .nil)))))) .rfl
    rintro n st ⟨dn, r, o, t, hr, ht, ho, hol, hn, rfl⟩
    refine ⟨fun hlt => ?_, fun hge => ?_⟩
    · have key : r = [] ∨ (r = [none] ∧ t = [codes ".*"]) ∨ ∃ x f r2, r = none :: (some x :: (List.map some f ++ r2)) ∧ ((r2 = [] ∧ t = [codes ".*", glue [] (x :: f)]) ∨
          ∃ r' t', r2 = none :: r' ∧ TailJ r2 t' ∧ t = (codes "(?>.*?" ++ glue [] (x :: f) ++ codes ")") :: t') := by
        cases ht with
        | nil => exact .inl rfl
        | last => exact .inr (.inl ⟨rfl, rfl⟩)
        | lastf hf =>
          rename_i f
          cases f with
          | nil => exact absurd rfl hf
          | cons x f => exact .inr (.inr ⟨x, f, [], by simp, .inl ⟨rfl, rfl⟩⟩)
        | mid hf t =>
          rename_i f r' out
          cases f with
          | nil => exact absurd rfl hf
          | cons x f => exact .inr (.inr ⟨x, f, none :: r', by simp, .inr ⟨r', out, rfl, t, rfl⟩⟩)
      rcases key with rfl | ⟨rfl, rfl⟩ | ⟨x, f, r2, rfl, key⟩
      · subst hr; simp at hlt
      · subst hr
        refine ⟨rfl, _, item_map hp (by simp), rfl, ?_⟩
        refine ⟨fun heq => ?_, fun hne => ?_⟩
        · refine ⟨rfl, Cl.bappend ok ⟨rfl, by simp at hp; refine rg (List.length_map ..) ?_; unfold szB; lia, ?_⟩⟩
          refine ⟨_, Le.mk (.cons .rfl (.cons .rfl (.cons .rfl (.cons .rfl (.cons .rfl (.cons (.int (by simp)) .nil)))))) (.cons ?_ .rfl), rfl⟩
          intro R x h
          subst ho
          simp only [List.map_append]
          cases h with
          | list h => exact .list (Strs.weak h)
        · exfalso; simp at hne
      · subst hr
        refine ⟨rfl, _, item_map hp (by simp), rfl, ?_⟩
        refine ⟨fun heq => by exfalso; simp at heq; lia, fun _ => ?_⟩
        have e : dn ++ none :: (some x :: (List.map some f ++ r2)) = (dn ++ [none]) ++ some x :: (List.map some f ++ r2) := by simp
        refine ⟨rfl, tsv aS (some x), by refine rg e ?_; exact item_map (by refine rl e ?_; exact hp) (by simp), ?_⟩
        intro a2
        generalize hP : dn ++ none :: (some x :: (List.map some f ++ r2)) = P at hp ⊢
        have hP' : P = dn ++ none :: (List.map some (x :: f) ++ r2) := by refine rl hP ?_; simp
        have hFn : 1 ≤ (x :: f).length := by simp
        generalize x :: f = F at hP' key hFn
        refine ⟨jI3 a aS a1 a2 P F o dn.length, ⟨_, _, ?_, [], F, rfl, rfl, rfl⟩, ?_⟩
        · exact Le.mk (.cons .rfl (.cons .rfl (.cons .rfl (.cons .rfl (.cons .rfl (.cons (.int (by simp)) (.cons .rfl .nil))))))) .rfl
        rintro m st ⟨d2, f2, hF, hm, rfl⟩
        refine ⟨fun hlt2 => ?_, fun hge2 => ?_⟩
        · cases f2 with
          | cons y f2 =>
            have e : P = (dn ++ none :: List.map some d2) ++ some y :: (List.map some f2 ++ r2) := by refine rg hP' (rg hF ?_); simp
            have hi : ((dn.length : Int) + 1 + d2.length) = (dn ++ none :: List.map some d2).length := by simp; lia
            refine ⟨rfl, tsv aS (some y), by refine rg e ?_; exact item_map (by refine rl e ?_; exact hp) hi, ?_⟩
            refine Me.append ⟨rfl, rfl, tsv aS (some y), by refine rg e ?_; exact item_map (by refine rl e ?_; exact hp) hi, rfl, Cl.lappend ok ⟨rfl, ?_, ?_⟩⟩
            · refine rg (List.length_map ..) ?_; replace hp := e ▸ hp; simp at hp; unfold szB; lia
            refine ⟨f2.length, _, by subst hm; simp, ?_, d2 ++ [y], f2, by refine rg hF ?_; simp, rfl, rfl⟩
            refine Le.mk (.cons .rfl (.cons .rfl (.cons .rfl (.cons .rfl (.cons .rfl (.cons (.int (by simp; lia)) (.cons .rfl .nil))))))) (.cons (fun R x h => ?_) .rfl)
            simpa [tsv] using h
          | nil =>
            simp only [List.append_nil] at hF
            subst hF
            rcases key with ⟨rfl, rfl⟩ | ⟨r', t', rfl, ht', rfl⟩
            · exfalso; replace hlt2 := hP' ▸ hlt2; simp at hlt2; lia
            have e : P = (dn ++ none :: List.map some F) ++ none :: r' := by refine rg hP' ?_; simp
            have hi : ((dn.length : Int) + 1 + F.length) = (dn ++ none :: List.map some F).length := by simp; lia
            have hF : total F ≤ 100000 ∧ total F + 7 ≤ 100000 := by
              subst ho
              rw [total_app, total_cons, List.length_append, List.length_append, glue_len] at hz
              have : (codes "(?>.*?").length = 6 := rfl
              have : (codes ")").length = 1 := rfl
              lia
            have hpl : dn.length + F.length ≤ 1000 := by replace hp := e ▸ hp; simp at hp; lia
            refine ⟨rfl, tsv aS none, by refine rg e ?_; exact item_map (by refine rl e ?_; exact hp) hi, rfl, ?_⟩
            refine Me.join ⟨rfl, Cl.join (l := F) ⟨rfl, Strs.map _ _, ?_, ?_⟩⟩
            · have : (Str.ofString "").cps.toList = [] := rfl
              refine rg this (rg List.length_nil ?_); unfold szB; lia
            refine ⟨fun heq => by exfalso; replace heq := e ▸ heq; simp at heq; lia, fun _ => ?_⟩
            have e0 : (Str.ofString "").cps.toList = [] := rfl
            have e1 : (Str.ofString "(?>.*?").cps.toList.length = 6 := rfl
            have e2 : (Str.ofString ")").cps.toList.length = 1 := rfl
            refine ⟨by refine rg e1 (rg List.length_nil ?_); decide, ?_, ?_⟩
            · rw [e0, glue_len]; unfold szB; lia
            refine ⟨by rw [e0, List.nil_append, e1, glue_len]; unfold szB; lia, ?_, ?_⟩
            · rw [e0, List.nil_append, List.length_append, e1, e2, glue_len]; unfold szB; lia
            refine ⟨rfl, Cl.bappend ok ⟨rfl, ?_, ?_⟩⟩
            · refine rg (List.length_map ..) ?_; unfold szB; lia
            refine ⟨(none :: r').length, _, ?_, ?_, dn ++ none :: List.map some F, none :: r', o ++ [codes "(?>.*?" ++ glue [] F ++ codes ")"], t', e, ht', ?_, ?_, rfl, rfl⟩
            · subst hn; simp; lia
            · refine Le.mk (.cons .rfl (.cons .rfl (.cons .rfl (.cons .rfl (.cons .rfl (.cons (.int hi) .drop)))))) (.skip (.cons (fun R x h => ?_) .rfl))
              simp only [List.map_append]
              cases h with
              | list h => exact .list h
            · refine rl ho ?_; simp
            · simp; lia
        · have h3 := of_decide_eq_false hge2
          have h4 : f2 = [] ∧ r2 = [] := by
            replace h3 := hF ▸ hP' ▸ h3; simp at h3
            constructor
            · cases f2 with
              | nil => rfl
              | cons => exfalso; simp at h3; lia
            · cases r2 with
              | nil => rfl
              | cons => exfalso; simp at h3; lia
          obtain ⟨rfl, rfl⟩ := h4
          simp only [List.append_nil] at hF
          subst hF
          rcases key with ⟨_, rfl⟩ | ⟨r', t', h5, _⟩
          rotate_left
          · cases h5
          have hF : total F ≤ 100000 := by
            subst ho
            simp only [total_app, total_cons, glue_len] at hz
            lia
          have hpl : dn.length + F.length ≤ 1000 := by replace hp := hP' ▸ hp; simp at hp; lia
          refine Me.join ⟨rfl, Cl.join (l := F) ⟨rfl, Strs.map _ _, ?_, ?_⟩⟩
          · have : (Str.ofString "").cps.toList = [] := rfl
            refine rg this (rg List.length_nil ?_); unfold szB; lia
          refine ⟨fun _ => ?_, fun hne => by exfalso; replace hne := hP' ▸ hne; simp at hne; lia⟩
          refine ⟨rfl, Cl.bappend ok ⟨rfl, ?_, ?_⟩⟩
          · refine rg (List.length_map ..) ?_; unfold szB; lia
          refine ⟨rfl, Cl.bappend ok ⟨rfl, ?_, ?_⟩⟩
          · rw [List.length_append, List.length_map, List.length_singleton]; unfold szB; lia
          refine ⟨0, _, ?_, ?_, P, [], o ++ [codes ".*", glue [] F], [], by simp, .nil, ?_, ?_, rfl, rfl⟩
          · subst hn; simp
          · refine Le.mk (.cons .rfl (.cons .rfl (.cons .rfl (.cons .rfl (.cons .rfl (.cons (.int ?_) .drop)))))) (.skip (.cons (fun R x h => ?_) .rfl))
            · refine rg hP' ?_; simp; lia
            · simp only [List.map_append, List.map_cons, List.map_nil]
              cases h with
              | list h =>
                have h := Strs.weak2 h
                have e0 : (Str.ofString "").cps.toList = [] := rfl
                replace h := e0 ▸ h
                exact .list (by simpa [List.append_assoc, codes] using h)
          · refine rl ho ?_; simp
          · refine rg hP' ?_; simp; lia
    · have h2 := of_decide_eq_false hge
      subst hr
      have : r = [] := by
        cases r with
        | nil => rfl
        | cons => exfalso; simp at h2; lia
      subst this
      cases ht
      simp only [List.append_nil] at ho
      subst ho
      exact ⟨_, Le.mk (.cons .rfl (.cons .rfl (.cons .rfl (.cons .rfl (.cons .rfl (.cons (.int (by simp)) .nil)))))) .rfl, rfl⟩
  rintro st rfl
  refine blkR_ok (ev_ok ok 30) _ _ _ ?_
  refine ⟨fun _ => ?_, fun h => by simp at h⟩
  refine Me.join ?_
  have e0 : (Str.ofString "").cps.toList = [] := rfl
  have e1 : (Str.ofString "(?s:").cps.toList.length = 4 := rfl
  have e2 : (Str.ofString ")\\Z").cps.toList.length = 3 := rfl
  have hg := glue_len (pre ++ out)
  refine ⟨rfl, Cl.join (l := pre ++ out) ⟨rfl, Strs.map _ _, ?_, ?_⟩⟩
  · rw [e0, List.length_nil, Nat.mul_zero]; first | exact upTo hz rfl | (unfold szB; lia)
  refine ⟨by refine rg e1 (rg List.length_nil ?_); decide, ?_, ?_⟩
  · refine rg e0 (rg hg ?_); first | exact upTo hz rfl | (unfold szB; lia)
  refine ⟨by rw [e0, List.nil_append, e1, hg]; unfold szB; lia, ?_, ?_⟩
  · rw [e0, List.nil_append, List.length_append, e1, e2, hg]; unfold szB; lia
  exact hQ _ (.cons _ (.refl _))
end
theorem mset_same {k : Nat} {c : Cell} : ∀ {l : List Cell}, mlk l k = some c → mset l k c.o = l
  | [], h => by cases h
  | d :: r, h => by
    rw [mlk_cons] at h
    refine rg (mset_cons ..) ?_
    cases q : Nat.beq d.k k with
    | true => replace h := q ▸ h; cases h; rfl
    | false => replace h := q ▸ h; exact rg (mset_same h) rfl
theorem join_cl {C : Cx} (G : Good C 1) {k : Nat} {a aS : Addr} {st : St} {Q : SV → St → Prop} {pre : List S} {rest : List (Option S)} {out : List S} {ps : List (Option S)} (hps : ps = pre.map some ++ rest) (ht : TailJ rest out) (hp : ps.length ≤ 1000) (hz : total (pre ++ out) ≤ 100000)
    (hm : mlk st.mem k = some ⟨k, a, .list (ps.map (tsv aS))⟩) (h : Q (.str false (codes "(?s:" ++ glue [] (pre ++ out) ++ codes ")\\Z")) st) : Cl C (.con (.ref 99)) [.ref k a, .ref 100 aS] [] st Q := by
  subst hps
  refine G.elim (P := fun C => Cl C (.con (.ref 99)) [.ref k a, .ref 100 aS] [] st Q) fun prog w A g L name scope fa cd cells cvs os ban outs oenv ok hroom => ?_
  refine Cu.cl (Cu.user ok rfl .rfl (loc := [("inp", .ref 0 a), ("STAR", .ref 100 aS)]) (fk := [k]) (ft := [⟨k, a, .list ((pre.map some ++ rest).map (tsv aS))⟩]) (show (KP w.params).lookup 99 = some _ from rfl) rfl hroom (by simp) (by unfold fts; refine rg hm ?_; rfl) ?_ rfl (by decide +kernel : List.Nodup (["inp", "STAR"] : List Str)) ?_ ?_)
  · intro R s ws ks r hw hk
    obtain ⟨v, t, rfl, h1, hw⟩ := hw.uncons
    obtain ⟨v, t, rfl, h3, h2⟩ := hw.uncons
    have := h2.unnil; subst this
    have := hk.unnil; subst this
    refine ⟨_, .cons ?_ (.cons h3 .nil), BindsTo.of_eq rfl⟩
    cases h1; exact .ref
  · decide +kernel
  · intro A' g L ban outs ok' hA
    refine join_body ht hp hz (fun st2 hs => ?_) ok'
    refine ⟨[], _, _, hs, rfl, fun _ _ h => h, ?_⟩
    have e : msets st.mem [k] [SO.list ((pre.map some ++ rest).map (tsv aS))] = st.mem := mset_same hm
    refine (?_ : Q _ ⟨st.loc, [] ++ msets st.mem [k] [SO.list ((pre.map some ++ rest).map (tsv aS))], st.nk + 0⟩)
    refine rg e ?_; exact h
end Mine
end

section
open PySem PySem.W PySem.Calls PyProof.Rows
set_option Elab.async false
set_option maxRecDepth 100000
set_option autoImplicit false
set_option linter.unusedVariables false
set_option maxHeartbeats 200000
namespace Mine
/-- what is joined: the pieces of the expression -/
noncomputable def joinG : Option (List S) → List (Option S) → List S
  | none, [] => []
  | none, some s :: r => s :: joinG none r
  | none, none :: r => joinG (some []) r
  | some f, some s :: r => joinG (some (f ++ [s])) r
  | some f, none :: r => (codes "(?>.*?" ++ glue [] f ++ codes ")") :: joinG (some []) r
  | some [], [] => [codes ".*"]
  | some (x :: f), [] => [codes ".*", glue [] (x :: f)]
/-- no two stars side by side -/
noncomputable def apart : Bool → List (Option S) → Prop
  | _, [] => True
  | b, none :: r => b = false ∧ apart true r
  | _, some _ :: r => apart false r
theorem partsF_apart : ∀ (x : S) (b : Bool), apart b (partsF b x)
  | [], b => trivial
  | c :: r, b => by
    unfold partsF
    split
    · split
      · rename_i h; subst h; exact partsF_apart r true
      · rename_i h; exact ⟨by simpa using h, partsF_apart r true⟩
    · split <;> exact partsF_apart r false
theorem tailJ_of : ∀ (ps : List (Option S)) (f : List S), apart (f.isEmpty) ps → TailJ (none :: (f.map some ++ ps)) (joinG (some f) ps)
  | [], [], _ => .last
  | [], x :: f, _ => by
    refine rg (List.append_nil ..) ?_
    exact .lastf (by simp)
  | some s :: r, f, h => by
    have e : f.map some ++ some s :: r = (f ++ [s]).map some ++ r := by simp
    refine rg e ?_
    exact tailJ_of r (f ++ [s]) (by induction f <;> exact h)
  | none :: r, f, h => by
    refine .mid (fun q => ?_) (tailJ_of r [] h.2)
    subst q; cases h.1
theorem joinG_split : ∀ (ps : List (Option S)), apart false ps → ∃ pre rest out, ps = pre.map some ++ rest ∧ TailJ rest out ∧ joinG none ps = pre ++ out
  | [], _ => ⟨[], [], [], rfl, .nil, rfl⟩
  | some s :: r, h => by
    obtain ⟨pre, rest, out, e1, e2, e3⟩ := joinG_split r h
    exact ⟨s :: pre, rest, out, by refine rg e1 ?_; rfl, e2, by (rewrite [joinG]; refine rg (e3 ..) ?_); rfl⟩
  | none :: r, h => ⟨[], none :: r, joinG (some []) r, rfl, by simpa using tailJ_of r [] h.2, rfl⟩
theorem joinG_total : ∀ (ps : List (Option S)) (cur : Option (List S)), (∀ s, some s ∈ ps → s.length ≤ 2) → total (joinG cur ps) ≤ 8 * ps.length + (match cur with | none => 0 | some f => total f + 8)
  | [], none, _ => by simp [joinG, total]
  | [], some [], _ => by
    have : total (joinG (some []) []) = 2 := rfl
    refine rg this ?_; simp
  | [], some (x :: f), _ => by
    (rewrite [joinG]; refine rg (total_cons ..) (rg (total_cons ..) (rg (glue_len ..) ?_)))
    have : (codes ".*").length = 2 := rfl
    have : total ([] : List S) = 0 := rfl
    simp only [List.length_nil]; lia
  | some s :: r, none, h => by
    (rewrite [joinG]; refine rg (total_cons ..) ?_)
    have h1 := h s (.head _)
    have h2 := joinG_total r none fun s hs => h s (.tail _ hs)
    simp only [List.length_cons] at h2 ⊢; lia
  | none :: r, none, h => by
    rw [joinG]
    have h2 := joinG_total r (some []) fun s hs => h s (.tail _ hs)
    have : total ([] : List S) = 0 := rfl
    simp only [List.length_cons] at h2 ⊢; lia
  | some s :: r, some f, h => by
    rw [joinG]
    have h1 := h s (.head _)
    have h2 := joinG_total r (some (f ++ [s])) fun s hs => h s (.tail _ hs)
    simp only [total_app, total_cons, List.length_cons] at h2 ⊢
    have : total ([] : List S) = 0 := rfl
    lia
  | none :: r, some f, h => by
    (rewrite [joinG]; refine rg (total_cons ..) ?_)
    have h2 := joinG_total r (some []) fun s hs => h s (.tail _ hs)
    have : total ([] : List S) = 0 := rfl
    have : (codes "(?>.*?").length = 6 := rfl
    have : (codes ")").length = 1 := rfl
    simp only [List.length_append, glue_len, List.length_cons] at h2 ⊢; lia
theorem partsF_len : ∀ (x : S) (b : Bool), (partsF b x).length ≤ x.length
  | [], b => Nat.le_refl _
  | c :: r, b => by
    unfold partsF
    split
    · split
      · exact Nat.le_succ_of_le (partsF_len r true)
      · exact Nat.succ_le_succ (partsF_len r true)
    · exact Nat.succ_le_succ (partsF_len r false)
theorem partsF_two : ∀ (x : S) (b : Bool) (s : S), some s ∈ partsF b x → s.length ≤ 2
  | [], b, s, h => by cases h
  | c :: r, b, s, h => by
    unfold partsF at h
    split at h
    · split at h
      · exact partsF_two r true s h
      · rcases List.mem_cons.mp h with h | h
        · exact snE h
        · exact partsF_two r true s h
    · rcases List.mem_cons.mp h with h | h
      · split at h
        · obtain rfl := Option.some.inj h; decide
        · obtain rfl := Option.some.inj h; unfold esc1; split <;> simp
      · exact partsF_two r false s h
/-- the translation of a text without sets -/
noncomputable def trF (x : S) : S := codes "(?s:" ++ glue [] (joinG none (partsF false x)) ++ codes ")\\Z"
theorem trF_len (x : S) : (trF x).length ≤ 8 * x.length + 10 := by
  have h1 := joinG_total (partsF false x) none (partsF_two x false)
  have h2 := partsF_len x false
  have : (codes "(?s:").length = 4 := rfl
  have : (codes ")\\Z").length = 3 := rfl
  unfold trF
  simp only [List.length_append, glue_len]
  simp only at h1; lia
section
variable {prog : Program} {w : World} {A : Around} {g : Heap} {L : Addr} {fa : Addr} {name : Str} {cd : Value} {os : OsState} {ban : List Addr} {outs : List (Addr × Obj)} {oenv : List Env} {Q : SF → St → Prop}
theorem good {prog : Program} {w : World} {A : Around} {g : Heap} {L : Addr} {name : Str} {scope : Scope} {fa : Addr} {cd : Value} {cells : List (Str × Addr)} {cvs : List (Str × SV)} {os : OsState} {ban : List Addr} {outs : List (Addr × Obj)} {oenv : List Env} {n : Nat}
    (ok : (cX prog w A g L name scope fa cd cells cvs os ban outs oenv).Ok) (h : A.depth + n < 900) : Good (cX prog w A g L name scope fa cd cells cvs os ban outs oenv) n := ⟨ok, rfl, rfl, h⟩
theorem translate_body {x : S} (hx : 91 ∉ x) (hz : x.length ≤ 1000) (hA : A.depth + 2 < 900) (hQ : ∀ st, Q (.ret (.str false (trF x))) st) (ok : (cX prog w A g L name (fScope (stAt 10)) fa cd [] [] os ban outs oenv).Ok) :
    Es (cX prog w A g L name (fScope (stAt 10)) fa cd [] [] os ban outs oenv) (execs (fBody (stAt 10)) (Cx.env (cX prog w A g L name (fScope (stAt 10)) fa cd [] [] os ban outs oenv))) ⟨[("pat", .str false x)], [], 0⟩ Q := by
  have G : Good (cX prog w A g L name (fScope (stAt 10)) fa cd [] [] os ban outs oenv) 2 := ⟨ok, rfl, rfl, hA⟩
  refine blkR_ok (ev_ok ok 30) _ _ _ ?_
  refine ⟨rfl, Cl.object 100 fun aS => ?_⟩
  refine ⟨rfl, translate0_cl G hx (by lia) fun a => ?_⟩
  obtain ⟨pre, rest, out, e1, e2, e3⟩ := joinG_split _ (partsF_apart x false)
  refine ⟨rfl, join_cl (good ok (by first | exact dp hA rfl | lia)) e1 e2 (Nat.le_trans (partsF_len x false) hz) ?_ rfl ?_⟩
  · refine rl e3 ?_
    have h1 := joinG_total (partsF false x) none (partsF_two x false)
    have h2 := partsF_len x false
    simp only at h1; lia
  · refine rl e3 ?_; exact hQ _
end
theorem translate_cl {C : Cx} (G : Good C 3) {x : S} {st : St} {Q : SV → St → Prop} (hx : 91 ∉ x) (hz : x.length ≤ 1000) (h : Q (.str false (trF x)) st) : Cl C (.con (.ref 73)) [.str false x] [] st Q := by
  refine G.elim (P := fun C => Cl C (.con (.ref 73)) [.str false x] [] st Q) fun prog w A g L name scope fa cd cells cvs os ban outs oenv ok hroom => ?_
  refine Cu.cl (Cu.user ok rfl .rfl (loc := [("pat", .str false x)]) (fk := []) (ft := []) (show (KP w.params).lookup 73 = some _ from rfl) rfl (show A.depth + 1 < 900 by first | exact dp hroom rfl | exact dp hA rfl | lia) .nil rfl ?_ rfl (by decide +kernel : List.Nodup (["pat"] : List Str)) ?_ ?_)
  · intro R s ws ks r hw hk
    refine ⟨ws, hw, ?_⟩
    obtain ⟨v, t, rfl, h1, h2⟩ := hw.uncons
    have := h2.unnil; subst this
    have := hk.unnil; subst this
    exact BindsTo.of_eq rfl
  · decide +kernel
  · intro A' g L ban outs ok' hA
    have hA : A'.depth = A.depth + 1 := hA
    exact translate_body hx hz (by lia) (fun st => Fin.pure h) ok'
end Mine
end

section
open PySem PySem.W PySem.Calls PyProof.Rows
set_option Elab.async false
set_option maxRecDepth 100000
set_option autoImplicit false
set_option linter.unusedVariables false
namespace Mine
open Sre (M)
noncomputable def mIter : Nat → M → M
  | 0, m => m
  | n + 1, m => mIter n m.step
/-- the machine comes to such a state -/
noncomputable def Run (N : Nat) (m : M) (P : M → Prop) : Prop := ∃ k, k ≤ N ∧ P (mIter k m)
theorem Run.stop {N : Nat} {m : M} {P : M → Prop} (h : P m) : Run N m P := ⟨0, Nat.zero_le _, h⟩
theorem Run.next {N : Nat} {m : M} {P : M → Prop} (h : Run N m.step P) : Run (N + 1) m P := let ⟨k, h1, h2⟩ := h; ⟨k + 1, Nat.succ_le_succ h1, h2⟩
theorem Run.next' {N : Nat} {m m' : M} {P : M → Prop} (e : m.step = m') (h : Run N m' P) : Run (N + 1) m P := (e ▸ h : Run N m.step P).next
theorem Run.le {N N' : Nat} {m : M} {P : M → Prop} (h : Run N m P) (hn : N ≤ N') : Run N' m P := let ⟨k, h1, h2⟩ := h; ⟨k, Nat.le_trans h1 hn, h2⟩
noncomputable def mm (code text : Array Nat) (lim start lastStart pc pos handed : Nat) (om : Bool) (fr : List Sre.Frame) (wt : Nat) (ans : Option Bool) (seen : Sre.Seen) (out : Option Sre.Outcome) : M :=
  { code, text, lim, start, lastStart, pc, pos, handed, outermost := om, marks := #[], frames := fr, weight := wt, answer := ans, seen, outcome := out }
section
variable {code text : Array Nat} {lim st ls pc pos hd : Nat} {om : Bool} {fr : List Sre.Frame} {wt : Nat} {seen : Sre.Seen}
theorem L_lit (hpc : pc < code.size) (hop : Sre.ops[code.getD pc 0]? = some .LITERAL)   : (mm code text lim st ls pc pos hd om fr wt none seen none).step =
    if pos < lim ∧ text.getD pos 0 = code.getD (pc + 1) 0 then mm code text lim st ls (pc + 2) (pos + 1) hd om fr wt none (seen.add (code.getD pc 0)) none else mm code text lim st ls pc pos hd om fr wt (some false) (seen.add (code.getD pc 0)) none := by
  unfold mm M.step
  simp only [Option.isSome_none, Bool.false_eq_true, if_false, hpc, if_true]
  unfold M.exec
  simp only [M.word, Nat.add_zero, hop, M.say]
  by_cases h : pos < lim
  · refine rg (if_neg (by lia)) ?_
    unfold Sre.accepts
    simp only [hop, Sre.itemWidth]
    by_cases h2 : text.getD pos 0 = code.getD (pc + 1) 0
    · refine rg (if_pos ⟨h, h2⟩) ?_
      have : (text.getD pos 0 == code.getD (pc + 1) 0) = true := by simpa using h2
      simp only [this]
      try rfl
    · refine rg (if_neg (fun q => h2 q.2)) ?_
      have : (text.getD pos 0 == code.getD (pc + 1) 0) = false := by simpa using h2
      simp only [this]
      try rfl
  · exact rg (if_pos (by lia)) (rg (if_neg (fun q => h q.1)) rfl)
    try rfl
theorem L_bol (hpc : pc < code.size) (hop : Sre.ops[code.getD pc 0]? = some .AT) (hk : code.getD (pc + 1) 0 = 1)   : (mm code text lim st ls pc pos hd om fr wt none seen none).step =
    if pos = 0 ∨ text.getD (pos - 1) 0 = 10 then mm code text lim st ls (pc + 2) pos hd om fr wt none ((seen.add (code.getD pc 0)).add (43 + 1)) none else mm code text lim st ls pc pos hd om fr wt (some false) ((seen.add (code.getD pc 0)).add (43 + 1)) none := by
  unfold mm M.step
  simp only [Option.isSome_none, Bool.false_eq_true, if_false, hpc, if_true]
  unfold M.exec
  simp only [M.word, Nat.add_zero, hop, M.say, M.isAt, hk]
  by_cases h : pos = 0 ∨ text.getD (pos - 1) 0 = 10
  · exact rg (if_pos (by simpa using h)) (rg (if_pos h) rfl)
    try rfl
  · exact rg (if_neg (by simpa using h)) (rg (if_neg h) rfl)
    try rfl
theorem L_jump (hpc : pc < code.size) (hop : Sre.ops[code.getD pc 0]? = some .JUMP)   : (mm code text lim st ls pc pos hd om fr wt none seen none).step = mm code text lim st ls (pc + 1 + code.getD (pc + 1) 0) pos hd om fr wt none (seen.add (code.getD pc 0)) none := by
  unfold mm M.step
  simp only [Option.isSome_none, Bool.false_eq_true, if_false, hpc, if_true]
  unfold M.exec
  simp only [M.word, Nat.add_zero, hop]
  try rfl
theorem L_succ (hpc : pc < code.size) (hop : Sre.ops[code.getD pc 0]? = some .SUCCESS)   : (mm code text lim st ls pc pos hd om fr wt none seen none).step = mm code text lim st ls pc pos pos om fr wt (some true) (seen.add (code.getD pc 0)) none := by
  unfold mm M.step
  simp only [Option.isSome_none, Bool.false_eq_true, if_false, hpc, if_true]
  unfold M.exec
  simp only [M.word, Nat.add_zero, hop, M.say]
  exact rg (if_neg (by simp)) rfl
  try rfl
/-- an alternative of a branch -/
theorem L_branch (hpc : pc < code.size) (hop : Sre.ops[code.getD pc 0]? = some .BRANCH) (hz : code.getD (pc + 1) 0 ≠ 0) (hw : wt < 1000)   : (mm code text lim st ls pc pos hd om fr wt none seen none).step =
    mm code text lim st ls (pc + 1 + 1) pos pos om ({ wait := .nextBranch, pc := pc + 1, pos, outermost := om } :: fr) (wt + 1) none (seen.add (code.getD pc 0)) none := by
  unfold mm M.step
  simp only [Option.isSome_none, Bool.false_eq_true, if_false, hpc, if_true]
  unfold M.exec
  simp only [M.word, Nat.add_zero, hop, M.alternative, M.attempt, M.frame, M.keep, Option.isSome_none]
  refine rg (if_neg (by simpa using hz)) (rg (if_neg (by simp; lia)) ?_)
  try rfl
theorem L_assertNot (hpc : pc < code.size) (hop : Sre.ops[code.getD pc 0]? = some .ASSERT_NOT) (hb : code.getD (pc + 2) 0 = 0) (hw : wt < 1000)   : (mm code text lim st ls pc pos hd om fr wt none seen none).step =
    mm code text lim st ls (pc + 3) pos pos false ({ wait := .lookNot, pc, pos, outermost := om } :: fr) (wt + 1) none (seen.add (code.getD pc 0)) none := by
  unfold mm M.step
  simp only [Option.isSome_none, Bool.false_eq_true, if_false, hpc, if_true]
  unfold M.exec
  simp only [M.word, Nat.add_zero, hop, M.attempt, M.frame, M.keep, Option.isSome_none, hb, Bool.and_false]
  refine rg (if_neg (by lia)) (rg (if_neg (by simp; lia)) ?_)
  try rfl
/-! answers -/
theorem L_end {b : Bool} : (mm code text lim st ls pc pos hd om [] wt (some b) seen none).step = mm code text lim st ls pc pos hd om [] wt (some b) seen (some (if b then .matched else .failed)) := rfl
theorem L_startYes {fpc fpos : Nat} {fo : Bool} : (mm code text lim st ls pc pos hd om ({ wait := .nextStart, pc := fpc, pos := fpos, outermost := fo } :: fr) (wt + 1) (some true) seen none).step =
    mm code text lim st ls fpc fpos hd fo fr wt (some true) seen none := rfl
theorem L_branchYes {fpc fpos : Nat} {fo : Bool} : (mm code text lim st ls pc pos hd om ({ wait := .nextBranch, pc := fpc, pos := fpos, outermost := fo } :: fr) (wt + 1) (some true) seen none).step =
    mm code text lim st ls fpc fpos hd fo fr wt (some true) seen none := rfl
theorem L_branchNo {fpc fpos : Nat} {fo : Bool} (hw : wt < 1000) (hz : code.getD (fpc + code.getD fpc 0) 0 ≠ 0) : (mm code text lim st ls pc pos hd om ({ wait := .nextBranch, pc := fpc, pos := fpos, outermost := fo } :: fr) (wt + 1) (some false) seen none).step =
    mm code text lim st ls (fpc + code.getD fpc 0 + 1) fpos fpos fo ({ wait := .nextBranch, pc := fpc + code.getD fpc 0, pos := fpos, outermost := fo } :: fr) (wt + 1) none seen none := by
  unfold mm M.step
  simp only [Option.isSome_none, Bool.false_eq_true, if_false]
  unfold M.resume
  simp only [M.putBack, M.alternative, M.attempt, M.frame, Bool.false_eq_true, if_false]
  refine rg (if_neg (by simpa using hz)) (rg (if_neg (by simp; lia)) ?_)
  simp
theorem L_branchEnd {fpc fpos : Nat} {fo : Bool} (hz : code.getD (fpc + code.getD fpc 0) 0 = 0) : (mm code text lim st ls pc pos hd om ({ wait := .nextBranch, pc := fpc, pos := fpos, outermost := fo } :: fr) (wt + 1) (some false) seen none).step =
    mm code text lim st ls fpc fpos hd fo fr wt (some false) seen none := by
  unfold mm M.step
  simp only [Option.isSome_none, Bool.false_eq_true, if_false]
  unfold M.resume
  simp only [M.putBack, M.alternative, M.attempt, M.frame, M.say, Bool.false_eq_true, if_false]
  refine rg (if_pos (by simpa using hz)) ?_
  simp
theorem L_lookNotYes {fpc fpos : Nat} {fo : Bool} : (mm code text lim st ls pc pos hd om ({ wait := .lookNot, pc := fpc, pos := fpos, outermost := fo } :: fr) (wt + 1) (some true) seen none).step =
    mm code text lim st ls fpc fpos hd fo fr wt (some false) seen none := rfl
theorem L_lookNotNo {fpc fpos : Nat} {fo : Bool} : (mm code text lim st ls pc pos hd om ({ wait := .lookNot, pc := fpc, pos := fpos, outermost := fo } :: fr) (wt + 1) (some false) seen none).step =
    mm code text lim st ls (fpc + 1 + code.getD (fpc + 1) 0) fpos hd fo fr wt none seen none := rfl
end
end Mine
end

section
open PySem PySem.W PySem.Calls PyProof.Rows
set_option Elab.async false
set_option maxRecDepth 100000
set_option autoImplicit false
set_option linter.unusedVariables false
namespace Mine
open Sre (M)
noncomputable def fndF (hit : Nat → Bool) : Nat → Nat → Option Nat
  | 0, _ => none
  | n + 1, s => match hit s with | true => some s | false => fndF hit n (s + 1)
noncomputable def code1 : Array Nat := #[14, 4, 0, 1, 1, 6, 1, 16, 46, 1]
noncomputable def code2 : Array Nat := #[14, 9, 4, 1, 2, 16, 10, 16, 13, 0, 7, 7, 16, 13, 16, 10, 15, 18, 5, 16, 10, 15, 13, 11, 16, 13, 5, 5, 0, 16, 10, 1, 15, 2, 0, 1]
noncomputable abbrev frS (pc s : Nat) (om : Bool) : Sre.Frame := { wait := .nextStart, pc, pos := s, outermost := om }
/-- what a search must end with -/
noncomputable def Ends (r : Option (Nat × Nat)) (m : M) : Prop := match r with
  | some (b, e) => m.outcome = some .matched ∧ m.start = b ∧ m.handed = e
  | none => m.outcome = some .failed
theorem fs1 {text : Array Nat} {s : Nat} (h : s < text.size) : ∃ sn, Sre.forSearch code1 text 0 s text.size false = mm code1 text text.size s text.size 5 s s true [frS 5 s true] 1 none sn none := by
  unfold Sre.forSearch
  rw [if_neg]
  · exact ⟨_, rfl⟩
  · refine (?_ : ¬ ((decide (s > text.size) || decide (text.size - s < 1)) = true))
    simp; lia
theorem fsEnd (code : Array Nat) (hc : (Sre.header code).1 = 1) {text : Array Nat} : ∃ m, Sre.forSearch code text 0 text.size text.size false = m ∧ Run 1 m (Ends none) := by
  refine ⟨_, rfl, ?_⟩
  unfold Sre.forSearch
  refine rg (if_pos (by rw [hc]; simp)) ?_
  exact Run.next (Run.stop rfl)
noncomputable def hit1 (text : Array Nat) (s : Nat) : Bool := (Nat.beq s 0 || Nat.beq (text.getD (s - 1) 0) 10) && Nat.beq (text.getD s 0) 46 && Nat.blt s text.size
theorem startNo1 {text : Array Nat} {st pc pos hd fpos : Nat} {om fo : Bool} {seen : Sre.Seen} : (mm code1 text text.size st text.size pc pos hd om [frS 5 fpos fo] 1 (some false) seen none).step =
    if fpos < text.size then mm code1 text text.size (fpos + 1) text.size 5 (fpos + 1) (fpos + 1) false [frS 5 (fpos + 1) false] 1 none seen none else mm code1 text text.size st text.size 5 fpos hd fo [] 0 (some false) seen none := by
  unfold mm M.step
  simp only [Option.isSome_none, Bool.false_eq_true, if_false]
  unfold M.resume
  simp only [Bool.false_eq_true, if_false]
  by_cases h : fpos < text.size
  · (rewrite [if_pos h]; refine rg (if_pos h) ?_); rfl
  · (rewrite [if_neg h]; refine rg (if_neg h) ?_); rfl
theorem run1 {text : Array Nat} : ∀ (n s : Nat) (om : Bool) (seen : Sre.Seen), s + n = text.size → Run (5 * n + 5) (mm code1 text text.size s text.size 5 s s om [frS 5 s om] 1 none seen none) (Ends ((fndF (hit1 text) n s).map fun b => (b, b + 1))) := by
  intro n
  induction n with
  | zero =>
    intro s om seen hs
    have hs : s = text.size := hs
    subst hs
    refine Run.le (N := 5) ?_ (by lia)
    refine Run.next' (L_bol (by decide) (by rfl) (by rfl)) ?_
    split
    · refine Run.next' (L_lit (by decide) (by rfl)) ?_
      refine rg (if_neg (by simp)) ?_
      refine Run.next' startNo1 ?_
      refine rg (if_neg (by simp)) ?_
      exact Run.next' L_end (Run.stop rfl)
    · refine Run.next' startNo1 ?_
      refine rg (if_neg (by simp)) ?_
      exact Run.next' L_end (Run.stop rfl)
  | succ n ih =>
    intro s om seen hs
    have hlt : s < text.size := by lia
    have go : ∀ (pc pos hd : Nat) (om' : Bool) (sn : Sre.Seen), hit1 text s = false → Run (5 * n + 6) (mm code1 text text.size s text.size pc pos hd om' [frS 5 s om] 1 (some false) sn none) (Ends ((fndF (hit1 text) (n + 1) s).map fun b => (b, b + 1))) := by
      intro pc pos hd om' sn hh
      rw [fndF]
      refine rg hh ?_
      refine Run.next' startNo1 ?_
      refine rg (if_pos hlt) ?_
      exact ih (s + 1) false sn (by lia)
    refine Run.next' (L_bol (by decide) (by rfl) (by rfl)) ?_
    split
    · rename_i hb
      refine Run.next' (L_lit (by decide) (by rfl)) ?_
      by_cases hl2 : text.getD s 0 = 46
      · refine rg (if_pos ⟨hlt, hl2⟩) ?_
        have hh : hit1 text s = true := by
          unfold hit1
          refine rg hl2 ?_
          have h1 : Nat.blt s text.size = true := by refine rg Nat.blt_eq ?_; exact hlt
          refine rg h1 ?_
          rcases hb with rfl | hb
          · rfl
          · refine rg hb ?_; simp
        rw [fndF]
        refine rg hh ?_
        refine Run.next' (L_succ (by decide) (by rfl)) ?_
        refine Run.next' (L_startYes (wt := 0)) ?_
        exact Run.next' L_end (Run.stop ⟨rfl, rfl, rfl⟩)
      · refine rg (if_neg (fun q => hl2 q.2)) ?_
        refine (go _ _ _ _ _ ?_).le (by lia)
        unfold hit1
        have h1 : text.getD s 0 ≠ 46 := hl2
        have : Nat.beq (text.getD s 0) 46 = false := by
          cases q : Nat.beq (text.getD s 0) 46 with
          | false => rfl
          | true => exact absurd (Nat.eq_of_beq_eq_true q) h1
        refine rg this ?_; simp
    · rename_i hb
      refine (go _ _ _ _ _ ?_).le (by lia)
      unfold hit1
      have h1 : Nat.beq s 0 = false := by
        cases q : Nat.beq s 0 with
        | false => rfl
        | true => exact absurd (.inl (Nat.eq_of_beq_eq_true q)) hb
      have h2 : Nat.beq (text.getD (s - 1) 0) 10 = false := by
        cases q : Nat.beq (text.getD (s - 1) 0) 10 with
        | false => rfl
        | true => exact absurd (.inr (Nat.eq_of_beq_eq_true q)) hb
      refine rg h1 (rg h2 ?_); rfl

/-! the line ends -/
noncomputable def hit2 (text : Array Nat) (s : Nat) : Bool := (Nat.beq (text.getD s 0) 10 || Nat.beq (text.getD s 0) 13) && Nat.blt s text.size
noncomputable def end2 (text : Array Nat) (s : Nat) : Nat := if text.getD s 0 = 13 ∧ s + 1 < text.size ∧ text.getD (s + 1) 0 = 10 then s + 2 else s + 1
theorem set2 (c : Nat) (seen : Sre.Seen) : ∃ sn, Sre.inSet code2 c code2.size 5 true seen = .ok (Nat.beq c 10 || Nat.beq c 13, sn) := by
  by_cases h1 : c = 10
  · subst h1; exact ⟨_, rfl⟩
  · by_cases h2 : c = 13
    · subst h2; exact ⟨_, rfl⟩
    · have e1 : Nat.beq c 10 = false := by
        cases q : Nat.beq c 10 with
        | false => rfl
        | true => exact absurd (Nat.eq_of_beq_eq_true q) h1
      have e2 : Nat.beq c 13 = false := by
        cases q : Nat.beq c 13 with
        | false => rfl
        | true => exact absurd (Nat.eq_of_beq_eq_true q) h2
      refine rg e1 (rg e2 ?_)
      have a1 : (c == code2.getD (5 + 1) 0) = false := by simpa [code2] using h1
      have a2 : (c == code2.getD (7 + 1) 0) = false := by simpa [code2] using h2
      have s1 : ∀ seen, Sre.inSet code2 c 36 5 true seen = Sre.inSet code2 c 35 7 true (seen.add (code2.getD (5 + 0) 0)) := fun seen => by
        refine (?_ : (if (c == code2.getD (5 + 1) 0) = true then _ else _) = _)
        exact rg (if_neg (by rw [a1]; decide)) rfl
      have s2 : ∀ seen, Sre.inSet code2 c 35 7 true seen = Sre.inSet code2 c 34 9 true (seen.add (code2.getD (7 + 0) 0)) := fun seen => by
        refine (?_ : (if (c == code2.getD (7 + 1) 0) = true then _ else _) = _)
        exact rg (if_neg (by rw [a2]; decide)) rfl
      refine ⟨_, (s1 seen).trans ((s2 _).trans rfl)⟩
theorem adm2 {m : M} {text : Array Nat} (hc : m.code = code2) (ht : m.text = text) (hl : m.lim = text.size) : ∀ (n s : Nat) (seen : Sre.Seen), s + n = text.size → ∃ sn, M.admitted m (n + 1) s seen = .ok (fndF (hit2 text) n s, sn)
  | 0, s, seen, h => by
    unfold M.admitted
    refine rg (if_pos (by lia)) ?_
    exact ⟨_, rfl⟩
  | n + 1, s, seen, h => by
    unfold M.admitted
    refine rg (if_neg (by lia)) (rg hc (rg ht ?_))
    obtain ⟨sn, e⟩ := set2 (text.getD s 0) seen
    refine rg e ?_
    have hlt : Nat.blt s text.size = true := by refine rg Nat.blt_eq ?_; lia
    have hh : hit2 text s = (Nat.beq (text.getD s 0) 10 || Nat.beq (text.getD s 0) 13) := by unfold hit2; rw [hlt, Bool.and_true]
    rw [fndF]
    refine rg hh ?_
    cases (Nat.beq (text.getD s 0) 10 || Nat.beq (text.getD s 0) 13) with
    | true => exact ⟨_, rfl⟩
    | false => exact adm2 hc ht hl n (s + 1) sn (by lia)
theorem ite_neg' {α : Type} {c c' : Prop} [Decidable c] {a b : α} (h : ¬ c') (e : c = c') : (if c then a else b) = b := by subst e; exact if_neg h
theorem fs2 {text : Array Nat} {s n : Nat} (h : s + (n + 1) = text.size) : ∃ sn, Sre.forSearch code2 text 0 s text.size false = match fndF (hit2 text) (n + 1) s with
    | some b => mm code2 text text.size b text.size 10 b b true [frS 10 b true] 1 none sn none
    | none => mm code2 text text.size s text.size 10 s s true [] 0 (some false) sn none := by
  unfold Sre.forSearch
  rw [if_neg]
  · have key : ∀ m : M, m.code = code2 → m.text = text → m.lim = text.size → M.hasFirstSet m = true → ∃ sn, M.attemptFrom m s true = match fndF (hit2 text) (n + 1) s with
        | some b => ({ m with mustAdvance := false, seen := sn } : M).attemptAt b true
        | none => ({ m with seen := sn } : M).say false := by
      intro m hc ht hl hf
      obtain ⟨sn, e⟩ := adm2 hc ht hl (n + 1) s m.seen h
      refine ⟨sn, ?_⟩
      unfold M.attemptFrom
      refine rg hf ?_
      simp only [Bool.not_true, Bool.false_eq_true, if_false]
      refine rg (show m.lim + 1 - s = n + 1 + 1 by lia) (rg e ?_)
      cases fndF (hit2 text) (n + 1) s <;> rfl
    have fin : ∀ m : M, m.code = code2 → m.text = text → m.lim = text.size → M.hasFirstSet m = true → (∀ b sn, ({ m with mustAdvance := false, seen := sn } : M).attemptAt b true = mm code2 text text.size b text.size 10 b b true [frS 10 b true] 1 none sn none) →
        (∀ sn, ({ m with seen := sn } : M).say false = mm code2 text text.size s text.size 10 s s true [] 0 (some false) sn none) → ∃ sn, M.attemptFrom m s true = match fndF (hit2 text) (n + 1) s with
    | some b => mm code2 text text.size b text.size 10 b b true [frS 10 b true] 1 none sn none
    | none => mm code2 text text.size s text.size 10 s s true [] 0 (some false) sn none := by
      intro m h1 h2 h3 h4 h5 h6
      obtain ⟨sn, e⟩ := key m h1 h2 h3 h4
      refine ⟨sn, e.trans ?_⟩
      cases fndF (hit2 text) (n + 1) s with
      | some b => exact h5 b sn
      | none => exact h6 sn
    refine fin _ ?_ ?_ ?_ ?_ ?_ ?_
    · rfl
    · rfl
    · rfl
    · rfl
    · intro b sn; rfl
    · intro sn; rfl
  · refine (?_ : ¬ ((decide (s > text.size) || decide (text.size - s < 1)) = true))
    simp; lia
theorem run2 {text : Array Nat} {s : Nat} {sn : Sre.Seen} (h : hit2 text s = true) : Run 40 (mm code2 text text.size s text.size 10 s s true [frS 10 s true] 1 none sn none) (Ends (some (s, end2 text s))) := by
  unfold hit2 at h
  obtain ⟨h1, h2⟩ := Bool.and_eq_true_iff.mp h
  have hlt : s < text.size := by replace h2 := Nat.blt_eq ▸ h2; exact h2
  have hc : text.getD s 0 = 10 ∨ text.getD s 0 = 13 := by
    rcases Bool.or_eq_true_iff.mp h1 with q | q
    · exact .inl (Nat.eq_of_beq_eq_true q)
    · exact .inr (Nat.eq_of_beq_eq_true q)
  have fin : ∀ (N pc pos hd e : Nat) (om : Bool) (sn : Sre.Seen) (bpc : Nat), e = end2 text s → Run (N + 4) (mm code2 text text.size s text.size 35 e hd om [{ wait := .nextBranch, pc := bpc, pos, outermost := true }, frS 10 s true] 2 none sn none) (Ends (some (s, end2 text s))) := by
    intro N pc pos hd e om sn bpc he
    refine Run.next' (L_succ (by decide) (by rfl)) ?_
    refine Run.next' (L_branchYes (wt := 1)) ?_
    refine Run.next' (L_startYes (wt := 0)) ?_
    exact Run.next' L_end (Run.stop ⟨rfl, rfl, he⟩)
  refine Run.next' (L_branch (by decide) (by rfl) (by decide) (by decide)) ?_
  refine Run.next' (L_lit (by decide) (by rfl)) ?_
  by_cases q : text.getD s 0 = 13
  · refine rg (if_pos ⟨hlt, q⟩) ?_
    refine Run.next' (L_lit (by decide) (by rfl)) ?_
    by_cases q2 : s + 1 < text.size ∧ text.getD (s + 1) 0 = 10
    · refine rg (if_pos (show s + 1 < text.size ∧ text.getD (s + 1) 0 = code2.getD (10 + 1 + 1 + 2 + 1) 0 from q2)) ?_
      refine Run.next' (L_jump (by decide) (by rfl)) ?_
      exact (fin 0 0 _ _ _ _ _ _ (by unfold end2; exact rg (if_pos ⟨q, q2⟩) rfl)).le (by lia)
    · refine rg (if_neg (show ¬ (s + 1 < text.size ∧ text.getD (s + 1) 0 = code2.getD (10 + 1 + 1 + 2 + 1) 0) from q2)) ?_
      refine Run.next' (L_branchNo (wt := 1) (by decide) (by decide)) ?_
      refine Run.next' (L_lit (by decide) (by rfl)) ?_
      refine rg (if_neg (fun z => by rw [q] at z; exact absurd z.2 (by decide))) ?_
      refine Run.next' (L_branchNo (wt := 1) (by decide) (by decide)) ?_
      refine Run.next' (L_lit (by decide) (by rfl)) ?_
      refine rg (if_pos ⟨hlt, q⟩) ?_
      refine Run.next' (L_assertNot (by decide) (by rfl) (by rfl) (by decide)) ?_
      refine Run.next' (L_lit (by decide) (by rfl)) ?_
      refine rg (ite_neg' (e := ?e) q2) ?_
      case e => rfl
      refine Run.next' (L_lookNotNo (wt := 2)) ?_
      refine Run.next' (L_jump (by decide) (by rfl)) ?_
      exact (fin 0 0 _ _ _ _ _ _ (by unfold end2; exact rg (if_neg (fun z => q2 z.2)) rfl)).le (by lia)
  · have q10 : text.getD s 0 = 10 := hc.resolve_right q
    refine rg (if_neg (fun z => q z.2)) ?_
    refine Run.next' (L_branchNo (wt := 1) (by decide) (by decide)) ?_
    refine Run.next' (L_lit (by decide) (by rfl)) ?_
    refine rg (if_pos ⟨hlt, q10⟩) ?_
    refine Run.next' (L_jump (by decide) (by rfl)) ?_
    exact (fin 0 0 _ _ _ _ _ _ (by unfold end2; exact rg (if_neg (fun z => q z.1)) rfl)).le (by lia)
end Mine
end

section
open PySem PySem.W PySem.Calls PyProof.Rows
set_option Elab.async false
set_option maxRecDepth 100000
set_option autoImplicit false
set_option genSizeOf false
set_option genInjectivity false
set_option linter.unusedVariables false
namespace Mine
open Sre (M)
theorem step_done {m : M} (h : m.outcome.isSome = true) : m.step = m := by unfold M.step; exact rg (if_pos h) rfl
theorem mIter_done {m : M} (h : m.outcome.isSome = true) : ∀ n, mIter n m = m
  | 0 => rfl
  | n + 1 => by unfold mIter; refine rg (step_done h) ?_; exact mIter_done h n
theorem mIter_add : ∀ (a b : Nat) (m : M), mIter (a + b) m = mIter b (mIter a m)
  | 0, b, m => by refine rg (Nat.zero_add ..) ?_; rfl
  | a + 1, b, m => by refine rg (show a + 1 + b = (a + b) + 1 by lia) ?_; exact mIter_add a b m.step
theorem runFor_eq : ∀ (n : Nat) (m : M), m.runFor n = mIter n m
  | 0, m => rfl
  | n + 1, m => by
    unfold M.runFor
    by_cases h : m.outcome.isSome = true
    · rw [if_pos h, mIter_done h]
    · refine rg (if_neg h) ?_; exact runFor_eq n m.step
section
variable {M' : Model} {A : Around} {E : Value → Shared → Prop} {s : Shared}
theorem wpAny_drive {P : M → Prop} {Q : M → Shared → Prop} (hQ : ∀ m, m.outcome.isSome = true → P m → Q m s) : ∀ (t N : Nat) (m : M), Run N m (fun m => m.outcome.isSome = true ∧ P m) → N < 4 * t → wpAny M' A (Builtin.Re.reDrive t m) Q E s
  | 0, N, m, h, hn => by lia
  | t + 1, N, m, ⟨k, h1, h2, h3⟩, hn => by
    unfold Builtin.Re.reDrive
    refine rg (runFor_eq ..) (rg (show Builtin.Re.reTurnSteps = 4 from rfl) ?_)
    by_cases hd : (mIter 4 m).outcome.isSome = true
    · show wpAny _ _ (if _ then _ else _) _ _ _
      refine rg (if_pos hd) ?_
      have e : mIter 4 m = mIter k m := by
        by_cases hk : k ≤ 4
        · rw [show 4 = k + (4 - k) by lia, mIter_add, mIter_done h2]
        · rw [show k = 4 + (k - 4) by lia, mIter_add, mIter_done hd]
      refine rg e ?_
      exact wpAny_pure (hQ _ h2 h3)
    · show wpAny _ _ (if _ then _ else _) _ _ _
      refine rg (if_neg hd) ?_
      have hk : 4 < k := by
        refine Nat.lt_of_not_le fun hk => hd ?_
        rw [show 4 = k + (4 - k) by lia, mIter_add, mIter_done h2]
        exact h2
      refine wpAny_bind (wpAny_rule (wpAny_drive hQ t (N - 4) (mIter 4 m) ⟨k - 4, by lia, ?_⟩ (by lia)))
      refine rl (mIter_add ..) (rg (show 4 + (k - 4) = k by lia) ?_)
      exact ⟨h2, h3⟩
theorem wpAny_runToEnd {r : Option (Nat × Nat)} {m : M} {N : Nat} {Q : Option M → Shared → Prop} (h : Run N m (Ends r)) (hN : N ≤ 10000000000)
    (hq1 : ∀ b e, r = some (b, e) → ∀ m' : M, m'.start = b → m'.handed = e → Q (some m') s) (hq2 : r = none → Q none s) : wpAny M' A (Builtin.Re.reRunToEnd m) Q E s := by
  unfold Builtin.Re.reRunToEnd
  refine wpAny_bind (wpAny_drive (P := Ends r) (fun m' _ he => ?_) _ N m ?_ (Nat.lt_of_le_of_lt hN (by decide)))
  · refine wpAny_bind (wpAny_forIn_list _ (fun _ _ s' => s' = s) (fun _ s' => wpAny _ _ _ _ _ s') (fun i rest b s' hs => ?_) (fun b s' hs => ?_) _ _ rfl)
    · subst hs
      by_cases hh : m'.seen.has i = true
      · refine rg (if_pos hh) ?_; exact wpAny_bind (wpAny_rule (wpAny_pure rfl))
      · refine rg (if_neg hh) ?_; exact wpAny_pure rfl
    · subst hs
      induction r with
      | none =>
        have he : m'.outcome = some .failed := he
        refine rg he ?_; exact wpAny_pure (hq2 rfl)
      | some p =>
        obtain ⟨b, e⟩ := p
        obtain ⟨h1, h2, h3⟩ := he
        refine rg h1 ?_; exact wpAny_pure (hq1 b e rfl m' h2 h3)
  · obtain ⟨k, h1, h2⟩ := h
    refine ⟨k, h1, ?_, h2⟩
    induction r with
    | none => have h2 : (mIter k m).outcome = some .failed := h2; refine rg h2 ?_; rfl
    | some p => obtain ⟨h1, _⟩ := h2; refine rg h1 ?_; rfl
end
/-- the pattern objects -/
structure Pat (h : Heap) (p : Addr) (code : Array Nat) : Prop where
  it : ∃ a b t0 ct t1 items n, h.get? p = some ⟨.type "re.Pattern", none, .fields #[a, b, .int 0 t0, .none, .none, .ref ct, .int 0 t1], #[]⟩ ∧ h.get? ct = some ⟨.type "tuple", none, .seq items n, #[]⟩ ∧ (items.map Builtin.Re.reRawOf).map (·.toNat) = code
theorem Pat.keep {h h' : Heap} {p : Addr} {code : Array Nat} (x : Pat h p code) (hk : ∀ b, b = p ∨ (∃ o, h.get? b = some o) → h'.get? b = h.get? b) : Pat h' p code := by
  obtain ⟨a, b, t0, ct, t1, items, n, h1, h2, h3⟩ := x.it
  exact ⟨a, b, t0, ct, t1, items, n, by refine rg (hk _ (.inl rfl)) ?_; exact h1, by refine rg (hk _ (.inr ⟨_, h2⟩)) ?_; exact h2, h3⟩
section
variable {prog : Program} {w : World} {A : Around} {E : Value → Shared → Prop} {s : Shared} {p : Addr} {code : Array Nat}
theorem wpAny_whole {x : Str} {t : Tok} {Q : Builtin.Re.ReTarget → Shared → Prop} (hp : Pat s.heap p code) (h : Q { pattern := .ref p, string := .str x t, code, text := x.cps, kind := 0, groups := 0, pos := 0, lim := x.cps.size } s) :
    wpAny (model prog w) A (Builtin.Re.reWholeTarget (.ref p) (.str x t)) Q E s := by
  obtain ⟨a, b, t0, ct, t1, items, n, h1, h2, h3⟩ := hp.it
  unfold Builtin.Re.reWholeTarget
  refine wpAny_bind (wpAny_bind (wpAny_load h1 (wpAny_pure ?_)))
  refine wpAny_bind (wpAny_of_eq (a := (x.cps, 0)) rfl ?_)
  refine (?_ : wpAny _ _ (Builtin.Re.reNoCollectionInside _ _ >>= _) _ _ _)
  refine wpAny_bind (wpAny_of_eq (a := ()) rfl ?_)
  refine wpAny_bind (wpAny_bind (wpAny_bind (wpAny_load h2 (wpAny_pure (wpAny_pure ?_)))))
  refine wpAny_pure ?_
  have e : ((some items).getD #[]).map Builtin.Re.reRawOf = items.map Builtin.Re.reRawOf := rfl
  refine rg e (rg h3 ?_)
  exact h
end
end Mine
end

section
open PySem PySem.W PySem.Calls PyProof.Rows
set_option Elab.async false
set_option maxRecDepth 100000
set_option autoImplicit false
set_option genSizeOf false
set_option genInjectivity false
set_option linter.unusedVariables false
namespace Mine
open Sre (M)
structure Finds (code : Array Nat) (x : List Nat) (F : Nat → Option (Nat × Nat)) : Prop where
  run : ∀ d, d ≤ x.length → ∃ N, N ≤ 10000000000 ∧ Run N (Sre.forSearch code x.toArray 0 d x.length false) (Ends (F d))
  ok : ∀ d b e, d ≤ x.length → F d = some (b, e) → d ≤ b ∧ b < e ∧ e ≤ x.length
/-- the pieces of what comes out, from a place on -/
noncomputable def subP (F : Nat → Option (Nat × Nat)) (x rp : List Nat) : Nat → Nat → List (List Nat)
  | 0, _ => []
  | n + 1, d => match F d with
    | some (b, e) => (if d < b then [(x.drop d).take (b - d)] else []) ++ rp :: subP F x rp n e
    | none => if d < x.length then [x.drop d] else []
theorem entry_subloop : entryFor table "re.Pattern.sub.loop" = some Builtin.«re.Pattern.sub.loop» := entryFor_of_tree (by kernel_rfl)
noncomputable def PL (h : Heap) (l : Addr) (ps : List (List Nat)) : Prop := ∃ vs n, h.get? l = some (listO vs n) ∧ StrsAre vs (ps.map fun x => (⟨x.toArray⟩ : Str))
theorem StrsAre.snoc {vs : List Value} {l : List Str} {y : Str} {t : Tok} (h : StrsAre vs l) : StrsAre (vs ++ [.str y t]) (l ++ [y]) := by
  induction h with
  | nil => exact .cons _ _ .nil
  | cons _ _ _ ih => exact .cons _ _ ih
theorem notPat {h : Heap} {l : Addr} {d : Option Addr} {dt : Data} {sl : Array (Option Value)} {vs : List Value} {n : Nat} (a : h.get? l = some ⟨.type "re.Pattern", d, dt, sl⟩) (b : h.get? l = some (listO vs n)) : False := by
  replace b := a ▸ b
  have := congrArg Obj.cls (Option.some.inj b)
  simp at this
theorem notTup {h : Heap} {l : Addr} {d : Option Addr} {dt : Data} {sl : Array (Option Value)} {vs : List Value} {n : Nat} (a : h.get? l = some ⟨.type "tuple", d, dt, sl⟩) (b : h.get? l = some (listO vs n)) : False := by
  replace b := a ▸ b
  have := congrArg Obj.cls (Option.some.inj b)
  simp at this
section
variable {prog : Program} {w : World} {A : Around} {E : Value → Shared → Prop} {s : Shared}
theorem wpAny_pushStr {l : Addr} {ps : List (List Nat)} {y : List Nat} {t : Tok} {Q : Unit → Shared → Prop} (h : PL s.heap l ps) (hz : ps.length ≤ szB)
    (hq : ∀ h', Heap.SameBut l s.heap h' → PL h' l (ps ++ [y]) → Q () { s with heap := h' }) : wpAny (model prog w) A (updateSeq l (·.push (.str ⟨y.toArray⟩ t))) Q E s := by
  obtain ⟨vs, n, h1, h2⟩ := h
  have hlen : vs.length = ps.length := by
    have : ∀ {vs : List Value} {ls : List Str}, StrsAre vs ls → vs.length = ls.length := by
      intro vs ls h
      induction h with
      | nil => rfl
      | cons _ _ _ ih => simp [ih]
    refine rg (this h2) ?_; simp
  have hz' : (vs.toArray).size ≤ sizeLine := by simp only [List.size_toArray]; refine rg hlen ?_; exact Nat.le_trans hz szB_line
  refine wpAny_updateSeq h1 rfl (hq _ (Heap.SameBut.update ..) ⟨vs ++ [.str ⟨y.toArray⟩ t], n + 1, ?_, ?_⟩) hz' (by refine rg (Array.size_push ..) ?_; exact Nat.succ_le_succ hz')
  · rw [Heap.get?_update_self _ h1 (by rw [mapSeq_push]; rfl), mapSeq_push]
    simp
  · refine rg List.map_append ?_; exact StrsAre.snoc h2
theorem sub_loop {p l : Addr} {code : Array Nat} {x rp : List Nat} {t tr : Tok} {F : Nat → Option (Nat × Nat)} (hf : Finds code x F) {R : Result → Shared → Prop} : ∀ (n d : Nat) (k : Int) (ps : List (List Nat)) (s : Shared), x.length - d < n → d ≤ x.length →
    Pat s.heap p code → PL s.heap l ps → total (ps ++ subP F x rp n d) ≤ szB → (ps ++ subP F x rp n d).length ≤ szB → x.length ≤ szB →
    (∀ h' t n', (∀ b o, b ≠ l → s.heap.get? b = some o → h'.get? b = some o) → R (.ok (.ret (.str ⟨(glue [] (ps ++ subP F x rp n d)).toArray⟩ t))) { s with heap := h', toks := n' }) →
    codeAny (model prog w) A (.builtin "re.Pattern.sub.loop" ⟨[.ref p, .str ⟨x.toArray⟩ t, .str ⟨rp.toArray⟩ tr, rawInt 0, rawInt 0, rawInt k, rawInt d, rawInt d, .bool false, .ref l, .bool false], []⟩) R s
  | 0, d, k, ps, s, h0, hd, hp, hl, hz, hz2, hx, hR => absurd h0 (Nat.not_lt_zero _)
  | n + 1, d, k, ps, s, h0, hd, hp, hl, hz, hz2, hx, hR => by
    refine codeAny_builtin entry_subloop ?_
    unfold Builtin.«re.Pattern.sub.loop»
    refine wpAny_bind (wpAny_whole hp ?_)
    refine (?_ : wpAny _ _ (Builtin.Re.reLiteralCannotBeTurned _ >>= _) _ _ _)
    refine wpAny_bind (wpAny_of_eq (a := ()) rfl ?_)
    refine (?_ : wpAny _ _ (Builtin.Re.reNextFound _ _ _ >>= _) _ _ _)
    obtain ⟨N, hN, hrun⟩ := hf.run d hd
    have hrun' : Run N (Sre.forSearch code x.toArray 0 ((d : Int).toNat) (x.toArray.size) false) (Ends (F d)) := by simpa using hrun
    have slice : ∀ (a b : Nat) (hab : a ≤ b) (hb : b ≤ x.length) {A : Around} {E : Value → Shared → Prop} {Q : Value → Shared → Prop}, (∀ t, Q (.str ⟨((x.drop a).take (b - a)).toArray⟩ t) { s with toks := s.toks + 1 }) → wpAny (model prog w) A (Builtin.Re.reSlice x.toArray 0 a b) Q E s := by
      intro a b hab hb A E Q hq
      refine (?_ : wpAny _ _ (mkStr ⟨x.toArray.extract a b⟩) _ _ _)
      have e : x.toArray.extract a b = ((x.drop a).take (b - a)).toArray := by
        apply Array.ext'
        simp
      refine rg e ?_
      exact wpAny_mkStr (hq _) (by
        refine (?_ : ((x.drop a).take (b - a)).toArray.size ≤ _)
        simp only [List.size_toArray, List.length_take, List.length_drop]
        exact Nat.le_trans (Nat.min_le_right _ _) (Nat.le_trans (Nat.sub_le _ _) (Nat.le_trans hx szB_line)))
    have keepP : ∀ h', Heap.SameBut l s.heap h' → Pat h' p code := fun h' hs => by
      obtain ⟨vs, n, h1, _⟩ := hl
      obtain ⟨a, b, t0, ct, t1, items, n', q1, q2, q3⟩ := hp.it
      exact ⟨a, b, t0, ct, t1, items, n', by refine rg (hs.2 _ (fun q => notPat (q ▸ q1) h1)) ?_; exact q1, by refine rg (hs.2 _ (fun q => notTup (q ▸ q2) h1)) ?_; exact q2, q3⟩
    refine wpAny_bind (wpAny_runToEnd hrun' hN (fun b e hF m' hb he => ?_) fun hF => ?_)
    · subst hb he
      refine (?_ : wpAny _ _ (if (d : Int).toNat < m'.start then _ else _) _ _ _)
      generalize hb : m'.start = b at hF ⊢
      generalize he : m'.handed = e at hF ⊢
      obtain ⟨o1, o2, o3⟩ := hf.ok d b e hd hF
      have e0 : subP F x rp (n + 1) d = (if d < b then [(x.drop d).take (b - d)] else []) ++ rp :: subP F x rp n e := by
        conv => lhs; rw [subP]
        rw [hF]
      rw [e0] at hz hz2 hR
      have tail : ∀ (ps' : List (List Nat)) (s' : Shared), ps' = ps ++ (if d < b then [(x.drop d).take (b - d)] else []) → Pat s'.heap p code → PL s'.heap l ps' → (∃ h' n', s' = { s with heap := h', toks := n' } ∧ ∀ b o, b ≠ l → s.heap.get? b = some o → h'.get? b = some o) →
          wpAny (model prog w) (A.under (Code.builtin "re.Pattern.sub.loop" ⟨[.ref p, .str ⟨x.toArray⟩ t, .str ⟨rp.toArray⟩ tr, rawInt 0, rawInt 0, rawInt k, rawInt d, rawInt d, .bool false, .ref l, .bool false], []⟩))
            (updateSeq l (·.push (.str ⟨rp.toArray⟩ tr)) >>= fun _ => again (.builtin "re.Pattern.sub.loop" ⟨[.ref p, .str ⟨x.toArray⟩ t, .str ⟨rp.toArray⟩ tr, rawInt 0, rawInt 0, rawInt (k + 1), rawInt e, rawInt e, .bool (e == b), .ref l, .bool false], []⟩))
            (fun fin s' => match fin with | .done f => R (.ok f) s' | .again c' => c'.quiet = true ∧ codeAny (model prog w) A c' R s') (fun e s' => R (.error e) s') s' := by
        rintro ps' s' hps hp' hl' ⟨h1, n1, rfl, hk1⟩
        have hle : ps'.length ≤ szB := by rw [hps]; simp only [List.length_append, List.length_cons] at hz2 ⊢; exact Nat.le_trans (by rw [← Nat.add_assoc]; exact Nat.le_add_right _ _) hz2
        refine wpAny_bind (wpAny_pushStr hl' hle fun h2 hs2 hl2 => ?_)
        refine wpAny_pure ⟨Code.quiet_builtin _ (by decide +kernel), ?_⟩
        have hne : (e == b) = false := by simpa using Nat.ne_of_gt o2
        rw [hne]
        refine sub_loop hf n e (k + 1) (ps' ++ [rp]) _ (Nat.lt_of_lt_of_le (Nat.sub_lt_sub_left (Nat.lt_of_lt_of_le (Nat.lt_of_le_of_lt o1 o2) o3) (Nat.lt_of_le_of_lt o1 o2)) (Nat.le_of_lt_succ h0)) o3 ?_ hl2 ?_ ?_ hx ?_
        · obtain ⟨vs, n, g1, _⟩ := hl'
          obtain ⟨a, b, t0, ct, t1, items, n', q1, q2, q3⟩ := hp'.it
          exact ⟨a, b, t0, ct, t1, items, n', by rw [hs2.2 _ (fun q => notPat (q ▸ q1) g1)]; exact q1, by rw [hs2.2 _ (fun q => notTup (q ▸ q2) g1)]; exact q2, q3⟩
        · rw [hps]; simpa [List.append_assoc] using hz
        · rw [hps]; simpa [List.append_assoc] using hz2
        · intro h' t n' hk'
          have := hR h' t n' (fun b o hb q => hk' b o hb ((hs2.2 b hb).trans (hk1 b o hb q)))
          rw [hps]
          simpa [List.append_assoc] using this
      rw [Int.toNat_natCast]
      by_cases hdb : d < b
      · rw [if_pos hdb]
        refine wpAny_bind (slice d b o1 (Nat.le_trans (Nat.le_of_lt o2) o3) fun t' => ?_)
        refine wpAny_bind (wpAny_pushStr (s := { s with toks := s.toks + 1 }) hl (by simp only [List.length_append] at hz2; exact Nat.le_trans (Nat.le_add_right _ _) hz2) fun h' hs hl' => ?_)
        exact tail _ _ (by rw [if_pos hdb]) (keepP h' hs) hl' ⟨h', _, rfl, fun b o hb q => (hs.2 b hb).trans q⟩
      · rw [if_neg hdb]
        exact tail ps s (by rw [if_neg hdb, List.append_nil]) hp hl ⟨s.heap, s.toks, rfl, fun _ _ _ q => q⟩
    · have e0 : subP F x rp (n + 1) d = if d < x.length then [x.drop d] else [] := by rw [subP]; rw [hF]
      rw [e0] at hz hz2 hR
      have fin : ∀ (ps' : List (List Nat)) (s' : Shared), ps' = ps ++ (if d < x.length then [x.drop d] else []) → PL s'.heap l ps' → (∃ h' n', s' = { s with heap := h', toks := n' } ∧ ∀ b o, b ≠ l → s.heap.get? b = some o → h'.get? b = some o) →
          wpAny (model prog w) (A.under (Code.builtin "re.Pattern.sub.loop" ⟨[.ref p, .str ⟨x.toArray⟩ t, .str ⟨rp.toArray⟩ tr, rawInt 0, rawInt 0, rawInt k, rawInt d, rawInt d, .bool false, .ref l, .bool false], []⟩))
            (Builtin.Re.reSlice x.toArray 0 0 0 >>= fun joiner => seqItems? (.ref l) >>= fun its => if (its.getD #[]).isEmpty = true then ret joiner else call (.builtin "str.join") [joiner, .ref l] >>= fun text => ret text)
            (fun fin s' => match fin with | .done f => R (.ok f) s' | .again c' => c'.quiet = true ∧ codeAny (model prog w) A c' R s') (fun e s' => R (.error e) s') s' := by
        rintro ps' s' hps ⟨vs, n', g1, g2⟩ ⟨h1, n1, rfl, hk1⟩
        rw [← hps] at hz hz2 hR
        refine wpAny_bind (?_ : wpAny _ _ (mkStr ⟨x.toArray.extract 0 0⟩) _ _ _)
        have e : x.toArray.extract 0 0 = ([] : List Nat).toArray := by simp
        rw [e]
        refine wpAny_mkStr ?_ (Nat.zero_le _)
        refine wpAny_bind (wpAny_seqItems g1 rfl ?_)
        have glue0 : ∀ t' n', R (.ok (.ret (.str ⟨(glue [] ps').toArray⟩ t'))) { s with heap := h1, toks := n' } := fun t' n' => hR h1 t' n' hk1
        cases vs with
        | nil =>
          have : ps' = [] := by cases ps' with
            | nil => rfl
            | cons => cases g2
          subst this
          exact wpAny_pure (glue0 _ _)
        | cons v vs =>
          show wpAny _ _ (call (.builtin "str.join") [_, .ref l] >>= fun text => ret text) _ _ _
          refine wpAny_bind ?_
          have il : ({ s with heap := h1, toks := n1 + 1 } : Shared).heap.IsList l (v :: vs).toArray := isList_of g1
          refine join_list (x := ⟨([] : List Nat).toArray⟩) il (by simpa using g2) ?_ (fun t' tk => ?_)
          · have e1 : ((ps'.map fun x => (⟨x.toArray⟩ : Str)).map (·.length)).sum = total ps' := by
              unfold total
              rw [List.map_map]
              congr 1
            rw [e1]
            have : (⟨([] : List Nat).toArray⟩ : Str).length = 0 := rfl
            rw [this, Nat.mul_zero]
            unfold szB at hz; lia
          · rw [glue_ok]
            exact wpAny_pure (glue0 _ _)
      show wpAny _ _ (if (d : Int).toNat < x.toArray.size then _ else _) _ _ _
      rw [Int.toNat_natCast, List.size_toArray]
      by_cases hdb : d < x.length
      · rw [if_pos hdb]
        refine wpAny_bind (slice d x.length (Nat.le_of_lt hdb) (Nat.le_refl _) fun t' => ?_)
        refine wpAny_bind (wpAny_pushStr (s := { s with toks := s.toks + 1 }) hl (by simp only [List.length_append] at hz2; exact Nat.le_trans (Nat.le_add_right _ _) hz2) fun h' hs hl' => ?_)
        exact fin _ _ (by rw [if_pos hdb, List.take_of_length_le (by simp)]) hl' ⟨h', _, rfl, fun b o hb q => (hs.2 b hb).trans q⟩
      · rw [if_neg hdb]
        exact fin ps s (by rw [if_neg hdb, List.append_nil]) hl ⟨s.heap, s.toks, rfl, fun _ _ _ q => q⟩
end
end Mine
end

section
open PySem PySem.W PySem.Calls PyProof.Rows
set_option Elab.async false
set_option maxRecDepth 100000
set_option autoImplicit false
set_option linter.unusedVariables false
namespace Mine
theorem slot_sub : Slot "re.Pattern" "sub" "re.Pattern.sub" :=
  .of (owner := "re.Pattern") (n := "sub") (by refine rg (typeLookup_type ..) (rg (builtinLookup_eq_fast ..) ?_); kernel_rfl) (by decide +kernel) (by decide +kernel) (by decide +kernel)
    (by first | exact .inl (by decide +kernel) | exact .inr (by decide +kernel)) (by refine rg (isSubtype_type ..) ?_; kernel_rfl)
theorem type_sub : typeOf (.builtin "re.Pattern.sub") = pure (.type "method_descriptor") := by refine (?_ : builtinType _ = _); refine rg builtinType_eq_fast ?_; kernel_rfl
theorem entry_sub : entryFor table "re.Pattern.sub" = some Builtin.«re.Pattern.sub» := entryFor_of_tree (by kernel_rfl)
theorem args_sub_3 (a b c : Value) : argsOk "re.Pattern.sub" ⟨[a, b, c], []⟩ := by unfold argsOk; kernel_rfl
theorem lookup_str_call : typeLookup (.type "str") "__call__" = pure none := by refine rg (typeLookup_type ..) (rg (builtinLookup_eq_fast ..) ?_); kernel_rfl
section
variable {prog : Program} {w : World} {A : Around} {E : Value → Shared → Prop} {s : Shared}
theorem named_sub (a b : Value) : Builtin.Re.reNamed "re.Pattern.sub" "sub" ["repl", "string", "count"] 2 [a, b] [] = pure [some a, some b, none] := by
  first | rfl | kernel_rfl
theorem call_sub {p : Addr} {code : Array Nat} {x rp : List Nat} {t tr : Tok} {F : Nat → Option (Nat × Nat)} {Q : Value → Shared → Prop} (hf : Finds code x F) (hp : Pat s.heap p code) (hrp : rp.toArray.contains 92 = false)
    (hz : total (subP F x rp (x.length + 1) 0) ≤ szB) (hz2 : (subP F x rp (x.length + 1) 0).length ≤ szB) (hx : x.length ≤ szB)
    (h : ∀ h' t n', (∀ b o, s.heap.get? b = some o → h'.get? b = some o) → Q (.str ⟨(glue [] (subP F x rp (x.length + 1) 0)).toArray⟩ t) { s with heap := h', toks := n' }) :
    wpAny (model prog w) A (call (.builtin "re.Pattern.sub") [.ref p, .str ⟨rp.toArray⟩ tr, .str ⟨x.toArray⟩ t]) Q E s := by
  have hT : s.TypeIs (.ref p) "re.Pattern" := by
    obtain ⟨a, b, t0, ct, t1, items, n, h1, _⟩ := hp.it
    exact ⟨_, h1, rfl⟩
  refine wpAny_call (codeAny_call_builtin slot_sub.plain entry_sub (slot_sub.check _ _ _ _ _ _ _ _ hT (args_sub_3 _ _ _) ?_))
  refine (?_ : wpAny _ _ (Builtin.Re.reNamed "re.Pattern.sub" "sub" ["repl", "string", "count"] 2 [_, _] [] >>= _) _ _ _)
  refine wpAny_bind (wpAny_of_eq (named_sub _ _) ?_)
  refine (?_ : wpAny _ _ (pure (0 : Int) >>= _) _ _ _)
  refine wpAny_bind (wpAny_pure ?_)
  refine wpAny_bind (wpAny_specialOf (typeIs_str _ _ _) lookup_str_call ?_)
  refine wpAny_bind (wpAny_of_eq (a := some ⟨rp.toArray⟩) rfl ?_)
  refine wpAny_bind (wpAny_of_eq (a := !(⟨rp.toArray⟩ : Str).cps.contains 92) rfl ?_)
  refine rg (show (!(⟨rp.toArray⟩ : Str).cps.contains 92) = true by show (!rp.toArray.contains 92) = true; rw [hrp]; rfl) ?_
  refine wpAny_bind (wpAny_of_eq (a := (.str ⟨rp.toArray⟩ tr, 0)) rfl ?_)
  refine wpAny_bind (wpAny_holding (wpAny_whole hp ?_))
  refine (?_ : wpAny _ _ (newList [] >>= _) _ _ _)
  refine wpAny_bind (wpAny_newList ?_ (Nat.zero_le _))
  refine wpAny_pure ⟨Code.quiet_builtin _ (by decide +kernel), ?_⟩
  have hk : ∀ b o, s.heap.get? b = some o → (s.heap.push { cls := .type "list", data := .seq ([] : List Value).toArray }).get? b = some o := fun b o e => Heap.get?_push_of_some _ e
  refine sub_loop hf (x.length + 1) 0 0 [] _ (by lia) (Nat.zero_le _) ?_ ⟨[], 0, Heap.get?_push_size _ rfl, .nil⟩ (by simpa using hz) (by simpa using hz2) hx ?_
  · obtain ⟨a, b, t0, ct, t1, items, n, h1, h2, h3⟩ := hp.it
    exact ⟨a, b, t0, ct, t1, items, n, hk _ _ h1, hk _ _ h2, h3⟩
  · intro h' t' n' hk'
    refine h h' t' n' fun b o e => hk' b o (fun q => ?_) (hk b o e)
    exact absurd (Heap.lt_size e) (by refine rg q ?_; exact Nat.lt_irrefl _)
end
end Mine
end

section
open PySem PySem.W PySem.Calls PyProof.Rows
set_option Elab.async false
set_option maxRecDepth 100000
set_option autoImplicit false
set_option linter.unusedVariables false
namespace Mine
/-! small sums -/
theorem ar1 {b d : Nat} (h : d + 1 ≤ b) : b - d = (b - (d + 1)) + 1 := (Nat.succ_pred_eq_of_pos (Nat.sub_pos_of_lt h)).symm
theorem ar2 {b d l : Nat} (q : b < d + (l - d)) (hd : d ≤ l) : b < l := by replace q := (Nat.add_sub_cancel' hd) ▸ q; exact q
theorem ar3 {d n l : Nat} (h : d + (n + 1) = l) : d < l := h ▸ Nat.lt_add_of_pos_right (Nat.succ_pos n)
theorem ar4 {d n l : Nat} (h : d + (n + 1) = l) : d + 1 + n = l := (Nat.succ_add_eq_add_succ d n).trans h
theorem ar5 {d l m : Nat} (h : l - d < m + 1) (hd : d ≤ l) {e : Nat} (he : d < e) (hl : d < l) : l - e < m :=
  Nat.lt_of_lt_of_le (Nat.sub_lt_sub_left hl he) (Nat.le_of_lt_succ h)
noncomputable abbrev F1 (x : List Nat) (d : Nat) : Option (Nat × Nat) := (fndF (hit1 x.toArray) (x.length - d) d).map fun b => (b, b + 1)
noncomputable abbrev F2 (x : List Nat) (d : Nat) : Option (Nat × Nat) := (fndF (hit2 x.toArray) (x.length - d) d).map fun b => (b, end2 x.toArray b)
theorem fndF_some {hit : Nat → Bool} : ∀ {n d b : Nat}, fndF hit n d = some b → d ≤ b ∧ b < d + n ∧ hit b = true
  | 0, d, b, h => by exact nsE h
  | n + 1, d, b, h => by
    rw [fndF] at h
    split at h
    · rename_i q; obtain rfl := Option.some.inj h; exact ⟨Nat.le_refl _, Nat.lt_add_of_pos_right (Nat.succ_pos n), q⟩
    · obtain ⟨h1, h2, h3⟩ := fndF_some h
      exact ⟨Nat.le_of_succ_le h1, (Nat.succ_add_eq_add_succ d n) ▸ h2, h3⟩
theorem finds1 {x : List Nat} (hx : x.length ≤ szB) : Finds code1 x (F1 x) where
  run := fun d hd => by
    unfold szB at hx
    by_cases h : d = x.length
    · subst h
      obtain ⟨m, e, hr⟩ := fsEnd code1 (by rfl) (text := x.toArray)
      replace e := List.size_toArray ▸ e
      refine ⟨1, by decide, ?_⟩
      refine rg e ?_
      have : F1 x x.length = none := by unfold F1; refine rg (Nat.sub_self ..) ?_; rfl
      refine rg this ?_; exact hr
    · obtain ⟨sn, e⟩ := fs1 (text := x.toArray) (s := d) (by refine rg List.size_toArray ?_; exact Nat.lt_of_le_of_ne hd h)
      have hr := run1 (text := x.toArray) (x.length - d) d true sn (by refine rg List.size_toArray ?_; exact Nat.add_sub_cancel' hd)
      replace hr := List.size_toArray ▸ (Eq.symm e) ▸ hr
      exact ⟨_, by lia, hr⟩
  ok := fun d b e hd h => by
    unfold F1 at h
    obtain ⟨b', h1, h2⟩ := Option.map_eq_some_iff.mp h
    cases h2
    obtain ⟨q1, q2, q3⟩ := fndF_some h1
    exact ⟨q1, Nat.lt_succ_self _, ar2 q2 hd⟩
theorem end2_le {x : List Nat} {b : Nat} (hb : b < x.length) : b < end2 x.toArray b ∧ end2 x.toArray b ≤ x.length := by
  unfold end2
  split
  · rename_i h; have := h.2.1; simp at this; lia
  · lia
theorem finds2 {x : List Nat} (hx : x.length ≤ szB) : Finds code2 x (F2 x) where
  run := fun d hd => by
    unfold szB at hx
    by_cases h : d = x.length
    · subst h
      obtain ⟨m, e, hr⟩ := fsEnd code2 (by rfl) (text := x.toArray)
      replace e := List.size_toArray ▸ e
      refine ⟨1, by decide, ?_⟩
      refine rg e ?_
      have : F2 x x.length = none := by unfold F2; refine rg (Nat.sub_self ..) ?_; rfl
      refine rg this ?_; exact hr
    · obtain ⟨n, hn⟩ : ∃ n, x.length - d = n + 1 := ⟨x.length - (d + 1), ar1 (Nat.lt_of_le_of_ne hd h)⟩
      obtain ⟨sn, e⟩ := fs2 (text := x.toArray) (s := d) (n := n) (by refine rg List.size_toArray (rl hn ?_); exact Nat.add_sub_cancel' hd)
      replace e := List.size_toArray ▸ e
      unfold F2
      refine rg hn ?_
      cases hb : fndF (hit2 x.toArray) (n + 1) d with
      | none =>
        replace e := hb ▸ e
        refine ⟨1, by decide, ?_⟩
        refine rg e ?_
        exact Run.next' L_end (Run.stop rfl)
      | some b =>
        replace e := hb ▸ e
        refine ⟨40, by decide, ?_⟩
        refine rg e ?_
        have := run2 (sn := sn) (fndF_some hb).2.2
        replace this := List.size_toArray ▸ this
        exact this
  ok := fun d b e hd h => by
    unfold F2 at h
    obtain ⟨b', h1, h2⟩ := Option.map_eq_some_iff.mp h
    cases h2
    obtain ⟨q1, q2, q3⟩ := fndF_some h1
    have := end2_le (x := x) (b := b) (ar2 q2 hd)
    exact ⟨q1, this.1, this.2⟩
theorem glue_nil (l : List (List Nat)) : glue [] l = l.flatten := by
  induction l with
  | nil => rfl
  | cons x r =>
    refine (?_ : glueF [] x r = _)
    refine rg (glueF_eq ..) ?_
    simp
theorem subP_flat {F : Nat → Option (Nat × Nat)} {x rp : List Nat} {G : Nat → List Nat} (h0 : ∀ d, d ≤ x.length → F d = none → G d = x.drop d)
    (h1 : ∀ d b e, d ≤ x.length → F d = some (b, e) → b < e ∧ d ≤ b ∧ e ≤ x.length ∧ G d = (x.drop d).take (b - d) ++ rp ++ G e) : ∀ (n d : Nat), x.length - d < n → d ≤ x.length → (subP F x rp n d).flatten = G d
  | 0, d, h, hd => absurd h (Nat.not_lt_zero _)
  | n + 1, d, h, hd => by
    rw [subP]
    cases hF : F d with
    | none =>
      refine rg (h0 d hd hF) ?_
      dsimp only
      split
      · simp
      · rename_i hq; refine rg (List.drop_of_length_le (Nat.le_of_not_lt hq)) ?_; rfl
    | some be =>
      obtain ⟨b, e⟩ := be
      obtain ⟨q1, q2, q3, q4⟩ := h1 d b e hd hF
      refine rg q4 ?_
      have ih := subP_flat h0 h1 n e (ar5 h hd (Nat.lt_of_le_of_lt q2 q1) (Nat.lt_of_lt_of_le (Nat.lt_of_le_of_lt q2 q1) q3)) q3
      dsimp only
      refine rg List.flatten_append (rg List.flatten_cons (rg ih ?_))
      split
      · simp
      · rename_i hq; have : b - d = 0 := Nat.sub_eq_zero_of_le (Nat.le_of_not_lt hq)
        refine rg this ?_; simp
theorem subP_count {F : Nat → Option (Nat × Nat)} {x rp : List Nat} : ∀ (n d : Nat), (subP F x rp n d).length ≤ 2 * n
  | 0, d => by rw [subP]; simp
  | n + 1, d => by
    rw [subP]
    cases hF : F d with
    | none => dsimp only; split <;> simp <;> lia
    | some be =>
      obtain ⟨b, e⟩ := be
      have ih := subP_count (F := F) (x := x) (rp := rp) n e
      dsimp only
      split <;> simp <;> lia
/-! what the two do -/
noncomputable def dots : Bool → List Nat → List Nat
  | _, [] => []
  | b, c :: r => if b = true ∧ c = 46 then 46 :: 46 :: dots false r else c :: dots (decide (c = 10)) r
noncomputable def crlf : List Nat → List Nat
  | 13 :: 10 :: r => 13 :: 10 :: crlf r
  | c :: r => (if c = 13 ∨ c = 10 then [13, 10] else [c]) ++ crlf r
  | [] => []
noncomputable def bol (x : List Nat) (d : Nat) : Bool := Nat.beq d 0 || Nat.beq (x.toArray.getD (d - 1) 0) 10
theorem drop_at {x : List Nat} {d : Nat} (h : d < x.length) : x.drop d = x.toArray.getD d 0 :: x.drop (d + 1) := by
  refine rg (List.drop_eq_getElem_cons h) ?_
  congr 1
  simp [h]
theorem beq_dec (a b : Nat) : Nat.beq a b = decide (a = b) := by
  cases h : Nat.beq a b with
  | true => simp [Nat.eq_of_beq_eq_true h]
  | false =>
    have : a ≠ b := fun q => by subst q; rw [Nat.beq_refl] at h; exact tfE h
    simp [this]
theorem dots_find {x : List Nat} : ∀ (n d : Nat), d + n = x.length → match fndF (hit1 x.toArray) n d with
    | none => dots (bol x d) (x.drop d) = x.drop d
    | some b => dots (bol x d) (x.drop d) = (x.drop d).take (b - d) ++ [46, 46] ++ dots (bol x (b + 1)) (x.drop (b + 1))
  | 0, d, h => by
    rw [fndF]
    dsimp only
    refine rg (List.drop_of_length_le (show x.length ≤ d from Nat.le_of_eq h.symm)) ?_; rfl
  | n + 1, d, h => by
    have hlt : d < x.length := ar3 h
    have hb1 : bol x (d + 1) = decide (x.toArray.getD d 0 = 10) := by
      refine (?_ : (Nat.beq (d + 1) 0 || Nat.beq (x.toArray.getD (d + 1 - 1) 0) 10) = _)
      refine rg (Nat.add_sub_cancel ..) (rg (beq_dec (x.toArray.getD d 0) 10) ?_); rfl
    have hh : hit1 x.toArray d = (bol x d && decide (x.toArray.getD d 0 = 46)) := by
      unfold hit1 bol
      have : Nat.blt d x.toArray.size = true := by refine rg Nat.blt_eq ?_; simpa using hlt
      rw [this, beq_dec (x.toArray.getD d 0) 46, Bool.and_true]
    rw [fndF]
    refine rg hh ?_
    cases hc : (bol x d && decide (x.toArray.getD d 0 = 46)) with
    | true =>
      dsimp only
      obtain ⟨q1, q2⟩ := Bool.and_eq_true_iff.mp hc
      have q2 : x.toArray.getD d 0 = 46 := by simpa using q2
      refine rg (drop_at hlt) (rg q2 ?_)
      refine (?_ : (if bol x d = true ∧ 46 = 46 then _ else _) = _)
      rw [if_pos ⟨q1, rfl⟩, hb1, q2, Nat.sub_self]
      rfl
    | false =>
      dsimp only
      have ih := dots_find (x := x) n (d + 1) (ar4 h)
      have e : dots (bol x d) (x.drop d) = x.toArray.getD d 0 :: dots (bol x (d + 1)) (x.drop (d + 1)) := by
        refine rg (drop_at hlt) (rg hb1 ?_)
        refine (?_ : (if bol x d = true ∧ x.toArray.getD d 0 = 46 then _ else _) = _)
        rw [if_neg]
        intro ⟨z1, z2⟩
        replace hc := z2 ▸ z1 ▸ hc
        simp at hc
      refine rg e ?_
      cases hf : fndF (hit1 x.toArray) n (d + 1) with
      | none => replace ih := hf ▸ ih; dsimp only at ih ⊢; exact rg ih (rl (drop_at hlt) rfl)
      | some b =>
        replace ih := hf ▸ ih
        dsimp only at ih ⊢
        have := (fndF_some hf).1
        refine rg ih (rg (drop_at hlt) (rg (ar1 this) (rg List.take_succ_cons ?_)))
        simp
theorem dots_ok {x : List Nat} : (subP (F1 x) x [46, 46] (x.length + 1) 0).flatten = dots true x := by
  have := subP_flat (F := F1 x) (x := x) (rp := [46, 46]) (G := fun d => dots (bol x d) (x.drop d)) (fun d hd hF => ?_) (fun d b e hd hF => ?_) (x.length + 1) 0 (Nat.lt_succ_self _) (Nat.zero_le _)
  · refine rg this ?_; rfl
  · have h := dots_find (x := x) (x.length - d) d (Nat.add_sub_cancel' hd)
    have hF' : fndF (hit1 x.toArray) (x.length - d) d = none := by simpa [F1] using hF
    replace h := hF' ▸ h; exact h
  · have h := dots_find (x := x) (x.length - d) d (Nat.add_sub_cancel' hd)
    obtain ⟨b', h1, h2⟩ := Option.map_eq_some_iff.mp hF
    cases h2
    replace h := h1 ▸ h
    have := fndF_some h1
    exact ⟨Nat.lt_succ_self _, this.1, ar2 this.2.1 hd, h⟩
theorem crlf_find {x : List Nat} : ∀ (n d : Nat), d + n = x.length → match fndF (hit2 x.toArray) n d with
    | none => crlf (x.drop d) = x.drop d
    | some b => crlf (x.drop d) = (x.drop d).take (b - d) ++ [13, 10] ++ crlf (x.drop (end2 x.toArray b))
  | 0, d, h => by
    rw [fndF]
    dsimp only
    refine rg (List.drop_of_length_le (show x.length ≤ d from Nat.le_of_eq h.symm)) ?_; rfl
  | n + 1, d, h => by
    have hlt : d < x.length := ar3 h
    have hh : hit2 x.toArray d = (decide (x.toArray.getD d 0 = 10) || decide (x.toArray.getD d 0 = 13)) := by
      unfold hit2
      have : Nat.blt d x.toArray.size = true := by refine rg Nat.blt_eq ?_; simpa using hlt
      rw [this, beq_dec (x.toArray.getD d 0) 10, beq_dec (x.toArray.getD d 0) 13, Bool.and_true]
    rw [fndF]
    refine rg hh ?_
    cases hc : (decide (x.toArray.getD d 0 = 10) || decide (x.toArray.getD d 0 = 13)) with
    | true =>
      dsimp only
      refine rg (Nat.sub_self ..) (rg (List.take_zero ..) (rg (List.nil_append ..) ?_))
      have q : x.toArray.getD d 0 = 10 ∨ x.toArray.getD d 0 = 13 := by simpa using hc
      unfold end2
      split
      · rename_i z
        obtain ⟨z1, z2, z3⟩ := z
        have z2 : d + 1 < x.length := by simpa using z2
        refine rg (drop_at hlt) (rg z1 (rg (drop_at z2) (rg z3 ?_)))
        rfl
      · rename_i z
        refine rg (drop_at hlt) ?_
        rcases q with q | q
        · refine rg q ?_
          cases x.drop (d + 1) <;> rfl
        · refine rg q ?_
          have nz : ∀ r, x.drop (d + 1) ≠ 10 :: r := fun r e => by
            refine z ⟨q, ?_, ?_⟩
            · have := congrArg List.length e
              simp at this
              simp; lia
            · have hl : d + 1 < x.length := by
                have := congrArg List.length e
                simp at this; lia
              replace e := (drop_at hl) ▸ e
              exact (List.cons.inj e).1
          generalize x.drop (d + 1) = y at nz ⊢
          induction y with
          | nil => rfl
          | cons a r =>
            have : a ≠ 10 := fun q => nz r (by exact rg q rfl)
            conv => lhs; unfold crlf
            split
            · rename_i e; simp at e; exact absurd e.1 this
            · rename_i e; simp at e; obtain ⟨rfl, rfl⟩ := e; rfl
            · rename_i e; exact cnE e
    | false =>
      dsimp only
      have ih := crlf_find (x := x) n (d + 1) (ar4 h)
      have q : x.toArray.getD d 0 ≠ 10 ∧ x.toArray.getD d 0 ≠ 13 := by simpa using hc
      have e : crlf (x.drop d) = x.toArray.getD d 0 :: crlf (x.drop (d + 1)) := by
        refine rg (drop_at hlt) ?_
        generalize x.toArray.getD d 0 = c at q ⊢
        conv => lhs; unfold crlf
        split
        · rename_i e; simp at e; exact absurd e.1 q.2
        · rename_i e; simp at e; obtain ⟨rfl, rfl⟩ := e; refine rg (if_neg (by lia)) ?_; rfl
        · rename_i e; exact cnE e
      refine rg e ?_
      cases hf : fndF (hit2 x.toArray) n (d + 1) with
      | none => replace ih := hf ▸ ih; dsimp only at ih ⊢; exact rg ih (rl (drop_at hlt) rfl)
      | some b =>
        replace ih := hf ▸ ih
        dsimp only at ih ⊢
        have := (fndF_some hf).1
        refine rg ih (rg (drop_at hlt) (rg (ar1 this) (rg List.take_succ_cons ?_)))
        simp
theorem crlf_ok {x : List Nat} : (subP (F2 x) x [13, 10] (x.length + 1) 0).flatten = crlf x := by
  have := subP_flat (F := F2 x) (x := x) (rp := [13, 10]) (G := fun d => crlf (x.drop d)) (fun d hd hF => ?_) (fun d b e hd hF => ?_) (x.length + 1) 0 (Nat.lt_succ_self _) (Nat.zero_le _)
  · refine rg this ?_; rfl
  · have h := crlf_find (x := x) (x.length - d) d (Nat.add_sub_cancel' hd)
    have hF' : fndF (hit2 x.toArray) (x.length - d) d = none := by simpa [F2] using hF
    replace h := hF' ▸ h; exact h
  · have h := crlf_find (x := x) (x.length - d) d (Nat.add_sub_cancel' hd)
    obtain ⟨b', h1, h2⟩ := Option.map_eq_some_iff.mp hF
    cases h2
    replace h := h1 ▸ h
    have q := fndF_some h1
    have := end2_le (x := x) (b := b) (ar2 q.2.1 hd)
    exact ⟨this.1, q.1, this.2, h⟩
theorem dots_len : ∀ (x : List Nat) (b : Bool), (dots b x).length ≤ 2 * x.length
  | [], b => by rw [dots]; simp
  | c :: r, b => by
    rw [dots]
    split
    · have := dots_len r false; simp; lia
    · have := dots_len r (decide (c = 10)); simp; lia
theorem crlf_len (x : List Nat) : (crlf x).length ≤ 2 * x.length := by
  fun_induction crlf x with
  | case1 r ih => simp; lia
  | case2 c r h ih => simp only [List.length_append, List.length_cons]; split <;> simp <;> lia
  | case3 => simp
end Mine
end

section
open PySem PySem.W PySem.Calls PyProof.Rows
set_option Elab.async false
set_option maxRecDepth 100000
set_option autoImplicit false
set_option linter.unusedVariables false
namespace Mine
theorem plain_pat : PlainAttrs "re.Pattern" := ⟨⟨"object.__getattribute__", by refine rg (typeLookup_type ..) (rg (builtinLookup_eq_fast ..) ?_); kernel_rfl, by decide +kernel⟩, by refine rg (typeLookup_type ..) (rg (builtinLookup_eq_fast ..) ?_); kernel_rfl⟩
section
variable {C : Cx} {st : St}
theorem Me.sub {p : Addr} {code : Array Nat} {Q : SV → List SV → St → Prop} (hp : Pat C.h₀ p code) (h : Q (.con (.builtin "re.Pattern.sub")) [.con (.ref p)] st) : Me C (.con (.ref p)) "sub" st Q := by
  intro R s v pl r hv; (first | obtain ⟨_, rfl⟩ := VR.str' hv | obtain ⟨_, rfl⟩ := VR.int' hv | obtain rfl := VR.ref' hv | obtain rfl := VR.con' hv | obtain ⟨_, rfl, _⟩ := VR.bm' hv | obtain ⟨rfl, _⟩ := VR.fz' hv | obtain rfl := VR.bool' hv | obtain rfl := VR.none' hv | cases hv)
  obtain ⟨m, F, hl⟩ := r.fr
  obtain ⟨a, b, t0, ct, t1, items, n, h1, h2, h3⟩ := hp.it
  have g1 := F.keep _ _ h1
  refine getMethod_builtin (name := "sub") (id := "re.Pattern.sub") (T := "re.Pattern") ⟨_, g1, rfl⟩ plain_pat ?_ type_sub (fun a e => ?_) ?_
  · exact slot_sub
  · injection e with e; subst e; exact ⟨_, g1, rfl⟩
  exact ⟨R, .rfl, _, _, st, r, .con, .cons .con .nil, h⟩
theorem Cl.sub {p : Addr} {code : Array Nat} {x rp : List Nat} {c d : Bool} {F : Nat → Option (Nat × Nat)} {Q : SV → St → Prop} (hp : Pat C.h₀ p code) (hf : Finds code x F) (hrp : rp.toArray.contains 92 = false)
    (hz : total (subP F x rp (x.length + 1) 0) ≤ szB) (hx : x.length ≤ 400000) (h : Q (.str false (subP F x rp (x.length + 1) 0).flatten) st) : Cl C (.con (.builtin "re.Pattern.sub")) [.con (.ref p), .str c rp, .str d x] [] st Q := by
  intro R s v ws ks r hv hw hk
  obtain ⟨w0, t, rfl, h0, hw⟩ := hw.uncons
  obtain ⟨w1, t, rfl, h1, hw⟩ := hw.uncons
  obtain ⟨w2, t, rfl, h2, h3⟩ := hw.uncons
  have := h3.unnil; subst this
  have := hk.unnil; subst this
  (first | obtain ⟨_, rfl⟩ := VR.str' hv | obtain ⟨_, rfl⟩ := VR.int' hv | obtain rfl := VR.ref' hv | obtain rfl := VR.con' hv | obtain ⟨_, rfl, _⟩ := VR.bm' hv | obtain ⟨rfl, _⟩ := VR.fz' hv | obtain rfl := VR.bool' hv | obtain rfl := VR.none' hv | cases hv); (first | obtain ⟨_, rfl⟩ := VR.str' h0 | obtain ⟨_, rfl⟩ := VR.int' h0 | obtain rfl := VR.ref' h0 | obtain rfl := VR.con' h0 | obtain ⟨_, rfl, _⟩ := VR.bm' h0 | obtain ⟨rfl, _⟩ := VR.fz' h0 | obtain rfl := VR.bool' h0 | obtain rfl := VR.none' h0 | cases h0); (first | obtain ⟨_, rfl⟩ := VR.str' h1 | obtain ⟨_, rfl⟩ := VR.int' h1 | obtain rfl := VR.ref' h1 | obtain rfl := VR.con' h1 | obtain ⟨_, rfl, _⟩ := VR.bm' h1 | obtain ⟨rfl, _⟩ := VR.fz' h1 | obtain rfl := VR.bool' h1 | obtain rfl := VR.none' h1 | cases h1); cases h2
  obtain ⟨m, Fr, hl⟩ := r.fr
  have hc := subP_count (F := F) (x := x) (rp := rp) (x.length + 1) 0
  have hp' : Pat s.heap p code := by
    obtain ⟨a, b, t0, ct, t1, items, n, h1, h2, h3⟩ := hp.it
    exact ⟨a, b, t0, ct, t1, items, n, Fr.keep _ _ h1, Fr.keep _ _ h2, h3⟩
  refine call_sub hf hp' hrp hz (by unfold szB; lia) (by unfold szB; lia) fun h' t n' hk => ?_
  refine ⟨R, .rfl, .str false (subP F x rp (x.length + 1) 0).flatten, st, r.keep (s' := { s with heap := h', toks := n' }) hk rfl rfl, ?_, h⟩
  refine rg (glue_nil ..) ?_; exact .str
theorem total_flat (l : List (List Nat)) : total l = l.flatten.length := by unfold total; exact rg List.length_flatten rfl
theorem Cl.sub1 {p : Addr} {x : List Nat} {c d : Bool} {Q : SV → St → Prop} (hp : Pat C.h₀ p code1) (hx : x.length ≤ 400000) (h : Q (.str false (dots true x)) st) : Cl C (.con (.builtin "re.Pattern.sub")) [.con (.ref p), .str c [46, 46], .str d x] [] st Q := by
  have e := dots_ok (x := x)
  refine Cl.sub hp (finds1 (by unfold szB; lia)) (by simp) ?_ hx (by refine rg e ?_; exact h)
  refine rg (total_flat ..) (rg (e ..) ?_)
  have := dots_len x true
  unfold szB; lia
theorem Cl.sub2 {p : Addr} {x : List Nat} {c d : Bool} {Q : SV → St → Prop} (hp : Pat C.h₀ p code2) (hx : x.length ≤ 400000) (h : Q (.str false (crlf x)) st) : Cl C (.con (.builtin "re.Pattern.sub")) [.con (.ref p), .str c [13, 10], .str d x] [] st Q := by
  have e := crlf_ok (x := x)
  refine Cl.sub hp (finds2 (by unfold szB; lia)) (by simp) ?_ hx (by refine rg e ?_; exact h)
  refine rg (total_flat ..) (rg (e ..) ?_)
  have := crlf_len x
  unfold szB; lia
end
end Mine
end

section
open PySem PySem.W PySem.Calls PyProof.Rows
set_option Elab.async false
set_option maxRecDepth 100000
set_option autoImplicit false
set_option linter.unusedVariables false
set_option maxHeartbeats 200000
namespace Mine
theorem pat49 {P : Params} {h : Heap} (X : (KP P).In h) : Pat h 49 code1 := ⟨_, _, _, _, _, _, _, X 49 _ rfl, X 48 _ rfl, by decide +kernel⟩
theorem pat54 {P : Params} {h : Heap} (X : (KP P).In h) : Pat h 54 code2 := ⟨_, _, _, _, _, _, _, X 54 _ rfl, X 53 _ rfl, by decide +kernel⟩
/-- what is sent -/
noncomputable def qdF (x : S) : S := dots true (crlf x)
section
variable {prog : Program} {w : World} {A : Around} {g : Heap} {L : Addr} {fa : Addr} {name : Str} {cd : Value} {os : OsState} {ban : List Addr} {outs : List (Addr × Obj)} {oenv : List Env} {Q : SF → St → Prop}
theorem quotedata_body {x : S} (hz : x.length ≤ 100000) (hQ : ∀ st, Q (.ret (.str false (qdF x))) st) (ok : (cX prog w A g L name (fScope (stAt 7)) fa cd [] [] os ban outs oenv).Ok) :
    Es (cX prog w A g L name (fScope (stAt 7)) fa cd [] [] os ban outs oenv) (execs (fBody (stAt 7)) (Cx.env (cX prog w A g L name (fScope (stAt 7)) fa cd [] [] os ban outs oenv))) ⟨[("data", .str false x)], [], 0⟩ Q := by
  refine blkR_ok (ev_ok ok 30) _ _ _ ?_
  refine Me.sub (pat49 ok.X) ?_
  refine Me.sub (pat54 ok.X) ?_
  refine ⟨rfl, Cl.sub2 (pat54 ok.X) (by lia) ?_⟩
  have := crlf_len x
  exact ⟨rfl, Cl.sub1 (pat49 ok.X) (by lia) (hQ _)⟩
end
theorem quotedata_cl {C : Cx} (G : Good C 1) {x : S} {st : St} {Q : SV → St → Prop} (hz : x.length ≤ 100000) (h : Q (.str false (qdF x)) st) : Cl C (.con (.ref 61)) [.str false x] [] st Q := by
  refine G.elim (P := fun C => Cl C (.con (.ref 61)) [.str false x] [] st Q) fun prog w A g L name scope fa cd cells cvs os ban outs oenv ok hroom => ?_
  refine Cu.cl (Cu.user ok rfl .rfl (loc := [("data", .str false x)]) (fk := []) (ft := []) (show (KP w.params).lookup 61 = some _ from rfl) rfl hroom .nil rfl ?_ rfl (by decide +kernel : List.Nodup (["data"] : List Str)) ?_ ?_)
  · intro R s ws ks r hw hk
    refine ⟨ws, hw, ?_⟩
    obtain ⟨v, t, rfl, h1, h2⟩ := hw.uncons
    have := h2.unnil; subst this
    have := hk.unnil; subst this
    exact BindsTo.of_eq rfl
  · decide +kernel
  · intro A' g L ban outs ok' hA
    exact quotedata_body hz (fun st => Fin.pure h) ok'
end Mine
end

section
open PySem PySem.W PySem.Calls PyProof.Rows
noncomputable section
set_option Elab.async false
set_option maxRecDepth 100000
set_option autoImplicit false
set_option genSizeOf false
set_option genInjectivity false
set_option linter.unusedVariables false
namespace Mine
/-! a new object -/
section
variable {C : Cx} {R : Frz} {st : St} {s : Shared}
noncomputable def instSt (st : St) (Cc x dx : Addr) : St := ⟨st.loc, ⟨st.nk, dx, .attrs x Cc []⟩ :: st.mem, st.nk + 1⟩
theorem Rel.newInst (ok : C.Ok) (r : Rel C R st s) (Cc : Addr) (g : Array GenState) (hg : g = s.gens) (d : Drawn) (t : Nat) (os : OsState) (ho : os = s.os) :
    Rel C (fun b o => R b o ∨ (b = s.heap.objs.size + 1 ∧ o = instObj Cc s.heap.objs.size)) (instSt st Cc (s.heap.objs.size + 1) s.heap.objs.size) ⟨(s.heap.push emptyDict).push (instObj Cc s.heap.objs.size), g, d, t, os⟩ := by
  have hk : ∀ b o, s.heap.get? b = some o → ((s.heap.push emptyDict).push (instObj Cc s.heap.objs.size)).get? b = some o := fun b o e => Heap.get?_push_of_some _ (Heap.get?_push_of_some _ e)
  have hx : ((s.heap.push emptyDict).push (instObj Cc s.heap.objs.size)).get? (s.heap.objs.size + 1) = some (instObj Cc s.heap.objs.size) := by heap_get
  have hd : ((s.heap.push emptyDict).push (instObj Cc s.heap.objs.size)).get? s.heap.objs.size = some emptyDict := Heap.get?_push_of_some _ (Heap.get?_push_size _ rfl)
  have r1 : Rel C R st ⟨(s.heap.push emptyDict).push (instObj Cc s.heap.objs.size), g, d, t, os⟩ := r.keep (s' := ⟨_, g, d, t, os⟩) hk hg ho
  have rf := r.freeze ok r1 (Nat.le_succ _) hx
  have lt : ∀ b o, s.heap.get? b = some o → b ≠ s.heap.objs.size := fun b o e => Nat.ne_of_lt (Heap.lt_size e)
  refine ⟨rf.fr, fun c hc => ?_, fun b o h => ⟨(rf.frz b o h).1, (rf.frz b o h).2.1, fun c hc => ?_⟩, rf.ban, ?_, rf.cvs, rf.gens, rf.os, fun p hp => let ⟨a1, b1, sl, e⟩ := r.outs p hp; ⟨a1, fun c hc => (by
    rcases List.mem_cons.mp hc with rfl | hc
    · exact (lt _ _ e).symm
    · exact b1 c hc), (rf.outs p hp).2.2⟩⟩
  · rcases List.mem_cons.mp hc with rfl | hc
    · exact ⟨emptyDict, .attrs (es := []) (n := 0) (sl := #[]) (.inr ⟨rfl, rfl⟩) rfl (fun i x e a => by simp at a), hd, Nat.ne_of_gt r.lt, r.base_none (Nat.le_refl _)⟩
    · exact rf.mem c hc
  · rcases List.mem_cons.mp hc with rfl | hc
    · rcases h with h | ⟨rfl, _⟩
      · exact (lt _ _ (r.frz b o h).1).symm
      · exact Nat.ne_of_lt (Nat.lt_succ_self _)
    · exact (rf.frz b o h).2.2 c hc
  · refine List.nodup_cons.mpr ⟨fun q => ?_, r.nd⟩
    obtain ⟨c, hc, e⟩ := List.mem_map.mp q
    obtain ⟨o', _, g, _⟩ := r.mem c hc
    exact lt _ _ g e
end
theorem Cu.make {C : Cx} (ok : C.Ok) {A0 : Around} (hAh : SameA A0 C.A) {Cc fI : Addr} {args : List SV} {kw : List (Str × SV)} {st : St} {Q : SV → St → Prop} (hm : makesIn C.K Cc = true)
    (hi : findIn C.K (.ref Cc) "__init__" = some (some (.ref fI))) (hf : typeIn C.K (.ref fI) = some (.type "function"))
    (h : ∀ x dx A1, A1.depth = A0.depth + 1 → SameA A1 C.A → Cu C A1 (.con (.ref fI)) (.ref st.nk x :: args) kw (instSt st Cc x dx) fun v st' => v = .none ∧ Q (.ref st.nk x) st') : Cu C A0 (.con (.ref Cc)) args kw st Q := by
  intro R s v ws ks r hv hw hk
  (first | obtain ⟨_, rfl⟩ := VR.str' hv | obtain ⟨_, rfl⟩ := VR.int' hv | obtain rfl := VR.ref' hv | obtain rfl := VR.con' hv | obtain ⟨_, rfl, _⟩ := VR.bm' hv | obtain ⟨rfl, _⟩ := VR.fz' hv | obtain rfl := VR.bool' hv | obtain rfl := VR.none' hv | cases hv)
  obtain ⟨m, F, hl⟩ := r.fr
  have X := ok.X.keeps F.keep
  obtain ⟨hh, g, d, t, os⟩ := s
  refine make_core (makes_of X hm) (looks_findIn X hi) (fun self => bind_fn X self hf) (.inl rfl) ?_
  have rn := Rel.newInst ok r Cc g rfl d t os rfl
  have gr : Grows R (fun b o => R b o ∨ (b = hh.objs.size + 1 ∧ o = instObj Cc hh.objs.size)) := fun _ _ h => .inl h
  have hA : (A0.under (.builtin "type.__call__" ⟨.ref Cc :: ws, (kw.map (·.1)).zip ks⟩)).depth = A0.depth + 1 := rfl
  have hA' : SameA (A0.under (.builtin "type.__call__" ⟨.ref Cc :: ws, (kw.map (·.1)).zip ks⟩)) C.A := ⟨hAh.hh, hAh.fr⟩
  refine codeAny_mono (h (hh.objs.size + 1) hh.objs.size _ hA hA' _ _ (.ref fI) (.ref (hh.objs.size + 1) :: ws) ks rn .con (.cons .ref (hw.grows gr)) (hk.grows gr)) fun res s' z => ?_
  induction res with
  | error e => exact z.elim
  | ok f =>
    induction f with
    | ret v =>
      obtain ⟨R', g', sv, st', r', hv, rfl, hq⟩ := z
      (first | obtain ⟨_, rfl⟩ := VR.str' hv | obtain ⟨_, rfl⟩ := VR.int' hv | obtain rfl := VR.ref' hv | obtain rfl := VR.con' hv | obtain ⟨_, rfl, _⟩ := VR.bm' hv | obtain ⟨rfl, _⟩ := VR.fz' hv | obtain rfl := VR.bool' hv | obtain rfl := VR.none' hv | cases hv)
      exact ⟨rfl, R', gr.trans g', _, st', r', .ref, hq⟩
    | _ => exact z.elim

/-! a class with a maker of its own -/
structure OwnCls (K : Frag) (P : Params) (Cc fN fI : Addr) : Prop where
  obj : ∃ oc od cd sl, K.lookup Cc = some ⟨oc, od, .cls cd, sl⟩ ∧ cd.abstract = false ∧ cd.hasDel = false ∧ cd.mro.isEmpty = false
  made : ∀ (M : Model) (h : Heap), M.w.params = P → K.In h → Looks M h (Bind.madeBy (.ref Cc)) none
  here : ∀ (M : Model) (h : Heap), M.w.params = P → K.In h → Looks M h (Bind.madeHere "object.__new__" (.ref Cc)) ()
  base : ∀ (M : Model) (h : Heap), M.w.params = P → K.In h → Looks M h (Bind.staticBase (.ref Cc)) (.type "object")
  self : PySem.W.subIn K (.ref Cc) (.ref Cc) = some true
  top : PySem.W.subIn K (.ref Cc) (.type "object") = some true
  call : specialIn K (.ref Cc) "__call__" = some (some (.builtin "type.__call__"))
  typ : instIn K (.ref Cc) (.type "type") = some true
  init : findIn K (.ref Cc) "__init__" = some (some (.ref fI))
  fn : typeIn K (.ref fI) = some (.type "function")
  meta_ : typeIn K (.ref Cc) = some (.type "type")
  reads : readsIn K Cc (.type "type") = true
  sm : ∃ p rest, findCls K (.ref Cc) (.type "type") "__new__" = some (.get (.builtin "staticmethod.__get__") (.ref p) .none (.ref Cc)) ∧ recIn K p "staticmethod" = some (.ref fN :: rest)
theorem Cl.newOwn {C : Cx} (ok : C.Ok) {Cc fN fI : Addr} (W : OwnCls C.K C.w.params Cc fN fI) {st : St} {Q : SV → St → Prop} (h : ∀ x dx, Q (.ref st.nk x) (instSt st Cc x dx)) : Cl C (.con (.builtin "object.__new__")) [.con (.ref Cc)] [] st Q := by
  intro R s v ws ks r hv hw hk
  obtain ⟨w0, t, rfl, h0, hw⟩ := hw.uncons
  have := hw.unnil; subst this
  have := hk.unnil; subst this
  (first | obtain ⟨_, rfl⟩ := VR.str' hv | obtain ⟨_, rfl⟩ := VR.int' hv | obtain rfl := VR.ref' hv | obtain rfl := VR.con' hv | obtain ⟨_, rfl, _⟩ := VR.bm' hv | obtain ⟨rfl, _⟩ := VR.fz' hv | obtain rfl := VR.bool' hv | obtain rfl := VR.none' hv | cases hv); (first | obtain ⟨_, rfl⟩ := VR.str' h0 | obtain ⟨_, rfl⟩ := VR.int' h0 | obtain rfl := VR.ref' h0 | obtain rfl := VR.con' h0 | obtain ⟨_, rfl, _⟩ := VR.bm' h0 | obtain ⟨rfl, _⟩ := VR.fz' h0 | obtain rfl := VR.bool' h0 | obtain rfl := VR.none' h0 | cases h0)
  obtain ⟨m, F, hl⟩ := r.fr
  have X := ok.X.keeps F.keep
  obtain ⟨hh, g, d, t, os⟩ := s
  obtain ⟨oc, od, cd, sl, hC, e1, e2, e4⟩ := W.obj
  have hC := X _ _ hC
  have here := W.here C.M hh rfl X
  have self : Looks C.M hh (isSubtype (.ref Cc) (.ref Cc)) true := looks_subIn X W.self
  have top : Looks C.M hh (isSubtype (.ref Cc) (.type "object")) true := looks_subIn X W.top
  have typ : Looks C.M hh (isInstance (.ref Cc) (.type "type")) true := looks_instIn X W.typ
  have F := PySem.F.objNew
  change wpAny _ _ (PySem.call (.builtin "object.__new__") [.ref Cc] []) _ _ _
  refine wpAny_call (codeAny_call_builtin_code (Code.quiet_builtin _ F.quiet) ?_)
  simp only [checkBuiltinCall, F.kind, F.split, F.row]
  have args : Bind.checkArgs "object.__new__" ⟨.hand, "object.__new__", "__new__", .cls, []⟩ ⟨.ref Cc :: [], []⟩ = pure () := by kernel_rfl
  have base := W.base C.M hh rfl X
  have mt : Looks C.M hh (Bind.madeBy (.type "object")) (some "object.__new__") := Looks.of_pure (madeBy_type mro_object lookup_object_new (by decide +kernel))
  refine rg args ?_
  repeat (first | simp only [bne_self_eq_false, Bool.false_eq_true, if_false] | lk)
  refine codeAny_builtin F.entry ?_
  unfold Builtin.«object.__new__»
  have rn := Rel.newInst ok r Cc g rfl d t os rfl
  have gr : Grows R (fun b o => R b o ∨ (b = hh.objs.size + 1 ∧ o = instObj Cc hh.objs.size)) := fun _ _ h => .inl h
  have fin : ∀ A', wpAny C.M A' (do
      let d ← if typeHasDict (.ref Cc) then some <$> alloc { cls := .type "dict", data := .dict #[] } else pure none
      ret (← newObj (.ref Cc) .plain d)) (fun fin s' => match fin with
        | .done f => (match (Except.ok f : Result) with
          | Except.ok (Flow.ret v) => VP C R Q v s'
          | Except.ok a => False
          | Except.error e => NoE e s')
        | .again c' => c'.quiet = true ∧ codeAny C.M C.A c' (fun r s' => match r with
          | Except.ok (Flow.ret v) => VP C R Q v s'
          | Except.ok a => False
          | Except.error e => NoE e s') s') (fun e s' => NoE e s') ⟨hh, g, d, t, os⟩ := by
    intro A'
    refine (?_ : wpAny _ _ ((alloc emptyDict >>= fun x => pure (some x)) >>= _) _ _ _)
    refine wpAny_bind (wpAny_bind (wpAny_alloc (wpAny_pure (wpAny_bind ?_))))
    refine (?_ : wpAny _ _ (newObjAsIs _ _ _) _ _ _)
    unfold newObjAsIs classHasDel
    refine wpAny_bind (wpAny_alloc (wpAny_bind (wpAny_bind (wpAny_load (Heap.get?_push_of_some _ (Heap.get?_push_of_some _ hC)) (wpAny_pure ?_)))))
    refine rg e2 ?_
    refine wpAny_pure (wpAny_pure ?_)
    dsimp only
    refine rg (Heap.size_push ..) ?_
    exact ⟨_, gr, .ref st.nk _, _, rn, .ref, h _ _⟩
  repeat (first | simp only [e1, Bool.false_eq_true, if_false] | exact fin _ | lk)
theorem Cu.makeOwn {C : Cx} (ok : C.Ok) {A0 : Around} (hAh : SameA A0 C.A) {Cc fN fI : Addr} (W : OwnCls C.K C.w.params Cc fN fI) (hN : handedIn (.ref fN) = true) {args : List SV} {kw : List (Str × SV)} {st : St} {Q : SV → St → Prop}
    (h : ∀ A1, A1.depth = A0.depth + 1 → SameA A1 C.A → Cu C A1 (.con (.ref fN)) (.con (.ref Cc) :: args) kw st fun v st1 => match v with
      | .ref k x => (withInst st1 k x fun Cl as => Cl = Cc) ∧ Cu C A1 (.con (.ref fI)) (.ref k x :: args) kw st1 fun u st2 => u = .none ∧ Q (.ref k x) st2
      | _ => False) : Cu C A0 (.con (.ref Cc)) args kw st Q := by
  intro R s v ws ks r hv hw hk
  (first | obtain ⟨_, rfl⟩ := VR.str' hv | obtain ⟨_, rfl⟩ := VR.int' hv | obtain rfl := VR.ref' hv | obtain rfl := VR.con' hv | obtain ⟨_, rfl, _⟩ := VR.bm' hv | obtain ⟨rfl, _⟩ := VR.fz' hv | obtain rfl := VR.bool' hv | obtain rfl := VR.none' hv | cases hv)
  obtain ⟨m, F, hl⟩ := r.fr
  have X := ok.X.keeps F.keep
  obtain ⟨hh, g, d, t, os⟩ := s
  obtain ⟨oc, od, cd, sl, hC, e1, e2, e4⟩ := W.obj
  have hc : clsIn C.K Cc = some cd := by unfold clsIn; exact rg hC rfl
  have hC := X _ _ hC
  have call : Looks C.M hh (specialOf (.ref Cc) "__call__") (some (.builtin "type.__call__")) := looks_specialIn X W.call
  have made := W.made C.M hh rfl X
  have self : Looks C.M hh (isSubtype (.ref Cc) (.ref Cc)) true := looks_subIn X W.self
  have typ : Looks C.M hh (isInstance (.ref Cc) (.type "type")) true := looks_instIn X W.typ
  have hi : Looks C.M hh (typeLookup (.ref Cc) "__init__") (some (.ref fI)) := looks_findIn X W.init
  have hm : Looks C.M hh (mroOf (.ref Cc)) cd.mro := (looks_clsIn X hc).andThen .now
  obtain ⟨p, rest, hsm, hrec⟩ := W.sm
  refine codeAny_of_tree ?_
  refine (?_ : wpAny _ _ (callAny (.ref Cc) _) _ _ _)
  refine nd_load hC ?_
  refine (?_ : wpAny _ _ (callAny.viaDunder (.ref Cc) _) _ _ _)
  unfold callAny.viaDunder
  refine wpAny_bind (call.at ?_)
  dsimp only
  refine rg (tc_bind ..) ?_
  refine wpAny_bind (wpAny_pure (wpAny_bind (wpAny_pure ?_)))
  refine wpAny_pure ?_
  refine ⟨rfl, ?_⟩
  refine codeAny_call_builtin_at (Code.quiet_builtin _ (by decide +kernel)) entry_typeCall (check_slot tc_kind tc_split typ (tc_args _ _ _) ?_)
  have hA : (A0.under (.builtin "type.__call__" ⟨.ref Cc :: ws, (kw.map (·.1)).zip ks⟩)).depth = A0.depth + 1 := rfl
  have hA' : SameA (A0.under (.builtin "type.__call__" ⟨.ref Cc :: ws, (kw.map (·.1)).zip ks⟩)) C.A := ⟨hAh.hh, hAh.fr⟩
  have hcall := h _ hA hA'
  unfold Builtin.«type.__call__»
  have getNew : ∀ {e : Bool} {A : Around} {Q : Value → Shared → Prop} {E : Value → Shared → Prop}, Q (.ref fN) ⟨hh, g, d, t + 1, os⟩ → wpAny (model C.prog C.w) A (getAttr (.ref Cc) "__new__" e) Q E ⟨hh, g, d, t, os⟩ := fun hq => cls_sm F ok.X W.meta_ W.reads hsm hrec hN hq
  repeat (first | simp only [e4, Bool.false_eq_true, if_false] | (with_reducible refine wpAny_call ?_) | (with_reducible refine getNew ?_) | lk)
  have r' : Rel C R st ⟨hh, g, d, t + 1, os⟩ := r.toks (t + 1)
  refine codeAny_mono (hcall R _ (.ref fN) (.ref Cc :: ws) ks r' .con (.cons .con hw) hk) fun res s' z => ?_
  induction res with
  | error e => exact z.elim
  | ok f =>
    cases f with
    | ret v =>
      obtain ⟨R1, g1, sv, st1, r1, hv, hz⟩ := z
      induction sv using SV.casesOn with
      | ref k x =>
        (first | obtain ⟨_, rfl⟩ := VR.str' hv | obtain ⟨_, rfl⟩ := VR.int' hv | obtain rfl := VR.ref' hv | obtain rfl := VR.con' hv | obtain ⟨_, rfl, _⟩ := VR.bm' hv | obtain ⟨rfl, _⟩ := VR.fz' hv | obtain rfl := VR.bool' hv | obtain rfl := VR.none' hv | cases hv)
        obtain ⟨hin, hini⟩ := hz
        obtain ⟨Cl, as, dx, sl', es, n, q1, q2, q3, q4, q5, rfl⟩ := r1.inst hin
        obtain ⟨m1, F1, _⟩ := r1.fr
        have X1 := ok.X.keeps F1.keep
        have hx := (r1.frz _ _ q2).1
        have t1 : Looks C.M s'.heap (typeOf (.ref x)) (.ref Cl) := (Looks.ld hx).andThen .now
        have s1 : Looks C.M s'.heap (isSubtype (.ref Cl) (.ref Cl)) true := looks_subIn X1 W.self
        have i1 : Looks C.M s'.heap (typeLookup (.ref Cl) "__init__") (some (.ref fI)) := looks_findIn X1 W.init
        have b1 : Looks C.M s'.heap (bindSpecial (.ref fI) (.ref x)) (.ref fI, [.ref x]) := bind_fn X1 _ W.fn
        obtain ⟨hh', g', d', t', os'⟩ := s'
        dsimp only at t1 s1 i1 b1
        unfold isInstance callSpecial? specialOf
        repeat (first | with_reducible refine wpAny_call ?_ | lk)
        refine codeAny_mono (hini R1 _ (.ref fI) (.ref x :: ws) ks r1 .con (.cons .ref (hw.grows g1)) (hk.grows g1)) fun res s'' z => ?_
        induction res with
        | error e => exact z.elim
        | ok f =>
          induction f with
          | ret v =>
            obtain ⟨R2, g2, sv, st2, r2, hv, rfl, hq⟩ := z
            (first | obtain ⟨_, rfl⟩ := VR.str' hv | obtain ⟨_, rfl⟩ := VR.int' hv | obtain rfl := VR.ref' hv | obtain rfl := VR.con' hv | obtain ⟨_, rfl, _⟩ := VR.bm' hv | obtain ⟨rfl, _⟩ := VR.fz' hv | obtain rfl := VR.bool' hv | obtain rfl := VR.none' hv | cases hv)
            repeat (first | exact ⟨R2, g1.trans g2, .ref k x, st2, r2, .ref, hq⟩ | lk)
          | _ => exact z.elim
      | _ => exact hz.elim
    | _ => exact z.elim
end Mine
end
end

section
open PySem PySem.W PySem.Calls PyProof.Rows
noncomputable section
set_option Elab.async false
set_option maxRecDepth 100000
set_option autoImplicit false
set_option linter.unusedVariables false
namespace Mine
/-! an empty deque -/
noncomputable def dqO : Obj := { cls := .type "collections.deque", data := .fields #[.none, .int 0 0] }
theorem mro_dq : mroOf (.type "collections.deque") = pure [.type "collections.deque", .type "object"] := by refine rg (mroOf_type ..) ?_; kernel_rfl
theorem lookup_dq_new : typeLookup (.type "collections.deque") "__new__" = pure (some (.builtin "collections.deque.__new__")) := by refine rg (typeLookup_type ..) (rg (builtinLookup_eq_fast ..) ?_); kernel_rfl
theorem slot_dq_init : Slot "collections.deque" "__init__" "collections.deque.__init__" :=
  .of (owner := "collections.deque") (n := "__init__") (by refine rg (typeLookup_type ..) (rg (builtinLookup_eq_fast ..) ?_); kernel_rfl) (by decide +kernel) (by decide +kernel) (by decide +kernel)
    (by first | exact .inl (by decide +kernel) | exact .inr (by decide +kernel)) (by refine rg (isSubtype_type ..) ?_; kernel_rfl)
theorem slot_dq_len : Slot "collections.deque" "__len__" "collections.deque.__len__" :=
  .of (owner := "collections.deque") (n := "__len__") (by refine rg (typeLookup_type ..) (rg (builtinLookup_eq_fast ..) ?_); kernel_rfl) (by decide +kernel) (by decide +kernel) (by decide +kernel)
    (by first | exact .inl (by decide +kernel) | exact .inr (by decide +kernel)) (by refine rg (isSubtype_type ..) ?_; kernel_rfl)
theorem called_dq : TypeCalled "collections.deque" "collections.deque.__new__" "collections.deque.__init__" :=
  ⟨by decide +kernel, by decide +kernel, ⟨_, _, mro_dq⟩, madeBy_type mro_dq lookup_dq_new (by decide +kernel), by decide +kernel, by refine rg (isSubtype_type ..) ?_; kernel_rfl, slot_dq_init⟩
theorem typeCall_dq_0 : checkTypeCall "collections.deque" ⟨[], []⟩ = pure () := by kernel_rfl
theorem newCall_dq_0 : checkBuiltinCall "collections.deque.__new__" ⟨[.type "collections.deque"], []⟩ = pure () := by kernel_rfl
theorem entry_dq_new : entryFor table "collections.deque.__new__" = some Builtin.«collections.deque.__new__» := entryFor_of_tree (by kernel_rfl)
theorem entry_dq_init : entryFor table "collections.deque.__init__" = some Builtin.«collections.deque.__init__» := entryFor_of_tree (by kernel_rfl)
theorem entry_dq_len : entryFor table "collections.deque.__len__" = some Builtin.«collections.deque.__len__» := entryFor_of_tree (by kernel_rfl)
theorem args_dq_init (a : Value) : argsOk "collections.deque.__init__" ⟨[a], []⟩ := by unfold argsOk; kernel_rfl
theorem args_dq_len (a : Value) : argsOk "collections.deque.__len__" ⟨[a], []⟩ := by unfold argsOk; kernel_rfl
theorem lookup_dq_bool : typeLookup (.type "collections.deque") "__bool__" = pure none := by refine rg (typeLookup_type ..) (rg (builtinLookup_eq_fast ..) ?_); kernel_rfl
theorem meets_dq_new : Meets (Builtin.«collections.deque.__new__» ⟨[.type "collections.deque"], []⟩) (fun _ R s => R (.ok (.ret (.ref s.heap.objs.size))) { s with heap := s.heap.push dqO }) := by
  refine Meets.of_wp fun prog w A R s hs => ?_
  have e : Builtin.«collections.deque.__new__» ⟨[.type "collections.deque"], []⟩ = (do let v ← newObj (.type "collections.deque") (.fields #[.none, .int 0 0]) none; ret v) := by
    first | rfl | kernel_rfl
  refine rg e ?_
  exact wpAny_bind (wpAny_newObj_type (wpAny_pure ⟨_, rfl, hs⟩))
theorem meets_dq_init (a : Addr) : Meets (Builtin.«collections.deque.__init__» ⟨[.ref a], []⟩) (fun _ R s => s.heap.get? a = some dqO ∧ ∀ h', h'.get? a = some dqO → Heap.SameBut a s.heap h' → R (.ok (.ret .none)) { s with heap := h' }) := by
  refine Meets.of_wp fun prog w A R s hs => ?_
  obtain ⟨ha, hq⟩ := hs
  have e : Builtin.«collections.deque.__init__» ⟨[.ref a], []⟩ = (do setField (.ref a) 0 .none; Builtin.Deque.clear (.ref a); ret .none) := by
    first | rfl | kernel_rfl
  refine rg e ?_
  refine wpAny_bind (wpAny_setField_rec ha (by decide) fun h' h1 h2 => ?_)
  have h1' : h'.get? a = some dqO := h1
  unfold Builtin.Deque.clear Builtin.Deque.items
  refine wpAny_bind (wpAny_bind (wpAny_bind ?_))
  refine wpAny_bind (wpAny_load (o := dqO) h1' (wpAny_pure (wpAny_pure ?_)))
  refine wpAny_pure ?_
  exact wpAny_pure ⟨_, rfl, hq h' h1' h2⟩
theorem call_dq {prog : Program} {w : World} {A : Around} {E : Value → Shared → Prop} {s : Shared} {Q : Value → Shared → Prop} (h : ∀ h', h'.get? s.heap.objs.size = some dqO → (∀ b o, s.heap.get? b = some o → h'.get? b = some o) → Q (.ref s.heap.objs.size) { s with heap := h' }) :
    wpAny (model prog w) A (call (.type "collections.deque") []) Q E s := by
  refine callType_meets (Q₁ := fun v s' => v = .ref s.heap.objs.size ∧ s' = { s with heap := s.heap.push dqO }) called_dq typeCall_dq_0 newCall_dq_0 entry_dq_new entry_dq_init meets_dq_new ⟨rfl, rfl⟩ ?_
  rintro obj s₁ ⟨rfl, rfl⟩
  have g : (s.heap.push dqO).get? s.heap.objs.size = some dqO := Heap.get?_push_size _ rfl
  refine ⟨⟨_, g, rfl⟩, args_dq_init _, _, meets_dq_init _, g, fun h' h1 h2 => ⟨rfl, h h' h1 fun b o e => ?_⟩⟩
  exact (h2.2 b (Nat.ne_of_lt (Heap.lt_size e))).trans (Heap.get?_push_of_some _ e)
theorem truthy_dq {prog : Program} {w : World} {A : Around} {E : Value → Shared → Prop} {s : Shared} {a : Addr} {Q : Bool → Shared → Prop} (ha : s.heap.get? a = some dqO) (h : ∀ n, Q false { s with toks := n }) :
    wpAny (model prog w) A (truthy (.ref a)) Q E s := by
  have hT : s.TypeIs (.ref a) "collections.deque" := ⟨_, ha, rfl⟩
  have body : wpAny (model prog w) A.in1 (Builtin.«len» ⟨[.ref a], []⟩) (fun fin s' => ∃ r, fin = .done (.ret r) ∧ r = .int 0 (s.toks + 1) ∧ s' = { s with toks := s.toks + 1 + 1 }) E s := by
    unfold Builtin.«len»
    refine wpAny_bind (m := oneArg "len" _) (wpAny_pure ?_)
    refine wpAny_bind (m := callSpecial? (.ref a) (Str.ofString "__len__")) (wpAny_callSpecial?_slot (name := Str.ofString "__len__") hT slot_dq_len
      (wpAny_call_entry slot_dq_len hT entry_dq_len ?_ (args_dq_len _)))
    refine (?_ : wpAny _ _ (do retInt (← Builtin.Deque.size (.ref a))) _ _ s)
    unfold Builtin.Deque.size
    refine wpAny_bind (wpAny_bind (wpAny_bind (wpAny_load ha (wpAny_pure (wpAny_pure ?_)))))
    refine wpAny_bind (wpAny_mkInt (wpAny_pure ⟨_, rfl, ?_⟩))
    refine wpAny_bind (wpAny_holding (wpAny_pure ?_))
    refine wpAny_bind (wpAny_letGo ?_)
    exact wpAny_bind (wpAny_mkInt (wpAny_pure ⟨_, rfl, rfl, rfl⟩))
  have key : wpAny (model prog w) A (runValue (.builtin "len" ⟨[.ref a], []⟩)) (fun r s' => r = .int 0 (s.toks + 1) ∧ s' = { s with toks := s.toks + 1 + 1 }) E s := by
    refine wpAny_runValue (codeAny_builtin entry_len ?_)
    refine rg (Around.under_plainId plain_len _) ?_
    exact wpAny_mono body (fun fin s' h' => by obtain ⟨r, rfl, hq⟩ := h'; exact hq) fun _ _ e => e
  unfold truthy
  refine wpAny_bind (wpAny_callSpecial?_none (name := Str.ofString "__bool__") hT lookup_dq_bool ?_)
  refine wpAny_bind (wpAny_specialOf (name := Str.ofString "__len__") hT slot_dq_len.lookup ?_)
  exact wpAny_bind (wpAny_mono key (fun r s' h' => by obtain ⟨rfl, rfl⟩ := h'; exact wpAny_pure (h _)) fun _ _ e => e)
section
variable {C : Cx} {st : St}
theorem T1.dq {a : Addr} {Q : Bool → Bool → St → Prop} (h : Q true false st) : T1 C (.fz a dqO) st Q := by
  intro R s v r hv
  cases hv with
  | fz ha => exact truthy_dq (r.frz _ _ ha).1 fun n => ⟨R, .rfl, true, st, r.toks n, h⟩
theorem Cl.dq (ok : C.Ok) {Q : SV → St → Prop} (h : ∀ a, Q (.fz a dqO) st) : Cl C (.con (.type "collections.deque")) [] [] st Q := by
  intro R s v ws ks r hv hw hk
  have := hw.unnil; subst this
  have := hk.unnil; subst this
  (first | obtain ⟨_, rfl⟩ := VR.str' hv | obtain ⟨_, rfl⟩ := VR.int' hv | obtain rfl := VR.ref' hv | obtain rfl := VR.con' hv | obtain ⟨_, rfl, _⟩ := VR.bm' hv | obtain ⟨rfl, _⟩ := VR.fz' hv | obtain rfl := VR.bool' hv | obtain rfl := VR.none' hv | cases hv)
  refine call_dq fun h' h1 h2 => ?_
  exact ⟨_, fun _ _ h => Or.inl h, _, st, r.freeze ok (r.keep (s' := { s with heap := h' }) h2 rfl rfl) (Nat.le_refl _) h1, .fz (.inr ⟨rfl, rfl⟩), h _⟩
end
end Mine
end
end

section
open PySem PySem.W PySem.Calls PyProof.Rows
noncomputable section
set_option Elab.async false
set_option maxRecDepth 100000
set_option autoImplicit false
set_option linter.unusedVariables false
namespace Mine
section
variable {C : Cx} {st : St}
theorem Ev.callKw (ok : C.Ok) {x ka : Str} {np kp pos : Pos} {a ke : Expr} {Q : SV → St → Prop} (hn : notStar a = true)
    (h : Ev C (eval (.Name x np) C.env) st fun f st1 => Ev C (eval a C.env) st1 fun v st2 => Ev C (eval ke C.env) st2 fun kv st3 => kept C f = true ∧ Cl C f [v] [(ka, kv)] st3 Q) :
    Ev C (eval (.Call (.Name x np) [a] [⟨some ka, ke, kp⟩] pos) C.env) st Q := fun R s rr => by
  refine wpAny_Call_Name_kw (wpAny_mono (h R s rr) ?_ fun _ _ e => e.elim)
  rintro f s1 ⟨R1, g1, sf, st1, r1, hf, h1⟩
  have he : starEach [a] C.env = (false, eval a C.env) :: starEach [] C.env := starEach_cons hn
  refine callWith_of (P := fun h => ∃ k, (k = Keeper.frame ∨ k = Keeper.machine ∨ k = Keeper.boundFrame) ∧ Looks C.M h (keeperOf f) k) ?_ (fun h p => p) (evalArgs_kw2 rfl ?_ he)
  · refine rg he ?_; rfl
  refine args_cons (wpAny_mono (h1 R1 s1 r1) ?_ fun _ _ e => e.elim) he
  rintro v s2 ⟨R2, g2, sv, st2, r2, hv, h2⟩
  refine args_nil ?_
  refine kwAll_cons (wpAny_mono (h2 R2 s2 r2) ?_ fun _ _ e => e.elim)
  rintro kv s3 ⟨R3, g3, skv, st3, r3, hkv, h3, h4⟩
  refine kwAll_nil ⟨kept_ok ok r3 (hf.grows (g2.trans g3)) h3, ?_⟩
  exact wpAny_mono (h4 R3 s3 f [v] [kv] r3 (hf.grows (g2.trans g3)) (.cons (hv.grows g3) .nil) (.cons hkv .nil)) (fun _ _ q => q.grows (g1.trans (g2.trans g3))) fun _ _ e => e.elim
end
end Mine
end
end

section
open PySem PySem.W PySem.Calls PyProof.Rows
set_option Elab.async false
set_option maxRecDepth 100000
set_option autoImplicit false
set_option linter.unusedVariables false
set_option maxHeartbeats 400000
namespace Mine
noncomputable def ownB (K : Frag) (Cl : Addr) (name : Str) : Bool := plainGet K Cl name && hasDictIn K Cl && match findIn K (.ref Cl) name with | some attr => noGet K attr | none => false
noncomputable def setB (K : Frag) (Cl : Addr) (name : Str) : Bool := findIn K (.ref Cl) "__setattr__" == some (some (.builtin "object.__setattr__")) && plainOver K Cl && (match takerIn K Cl name with | some none => true | _ => false) && hasDictIn K Cl
noncomputable def memS (l : List Str) (x : Str) : Bool := match l with
  | [] => false
  | y :: r => match eqS y x with | true => true | false => memS r x
theorem memS_all {P : Str → Bool} {x : Str} : ∀ {l : List Str}, l.all P = true → memS l x = true → P x = true
  | [], _, h => by exact ftE h
  | y :: r, ha, h => by
    unfold memS at h
    obtain ⟨h1, h2⟩ := Bool.and_eq_true_iff.mp (show (P y && r.all P) = true from ha)
    split at h
    · rename_i q; refine rl (eqS_iff.mp q) ?_; exact h1
    · exact memS_all h2 h
noncomputable def namesOf (Cl : Addr) : List Str := match Nat.beq Cl 782 with
  | true => ["instream", "infile", "posix", "eof", "commenters", "wordchars", "whitespace", "whitespace_split", "quotes", "escape", "escapedquotes", "state", "pushback", "lineno", "debug", "token", "filestack", "source", "_punctuation_chars"]
  | false => match Nat.beq Cl 647 with
    | true => ["_StringIO__newline", "_StringIO__buf", "_StringIO__pos"]
    | false => []
theorem own782 (P : Params) : ((namesOf 782).all fun n => ownB (KP P) 782 n && setB (KP P) 782 n) = true := by first | rfl | kernel_rfl
theorem own647 (P : Params) : ((namesOf 647).all fun n => ownB (KP P) 647 n && setB (KP P) 647 n) = true := by first | rfl | kernel_rfl
theorem ownAll (P : Params) (Cl : Addr) : ((namesOf Cl).all fun n => ownB (KP P) Cl n && setB (KP P) Cl n) = true := by
  cases h : Nat.beq Cl 782 with
  | true => obtain rfl := Nat.eq_of_beq_eq_true h; exact own782 P
  | false =>
    cases h' : Nat.beq Cl 647 with
    | true => obtain rfl := Nat.eq_of_beq_eq_true h'; exact own647 P
    | false => unfold namesOf; refine rg h (rg h' ?_); rfl
section
noncomputable def attrsOf (st : St) (k : Nat) (x : Str) : Option (Addr × Addr × List (Str × SV)) := match mlk st.mem k with
  | none => none
  | some c => match c.o with
    | .attrs a Cl as => match memS (namesOf Cl) x with
      | true => some (a, Cl, as)
      | false => none
    | _ => none
noncomputable def gaF (st : St) (k : Nat) (x : Str) : Option (Addr × SV) := match attrsOf st k x with
  | none => none
  | some p => match lk p.2.2 x with
    | none => none
    | some v => match handed v with
      | true => some (p.1, v)
      | false => none
noncomputable def saF (st : St) (k : Nat) (x : Str) (v : SV) : Option (Addr × List Cell) := match attrsOf st k x with
  | none => none
  | some p => match Nat.ble p.2.2.length 900 with
    | true => some (p.1, mset st.mem k (.attrs p.1 p.2.1 (setL p.2.2 x v)))
    | false => none
theorem attrsOf_some {st : St} {k : Nat} {x : Str} {a Cl : Addr} {as : List (Str × SV)} {P : Addr → List (Str × SV) → Prop} (h : attrsOf st k x = some (a, Cl, as)) (p : P Cl as) : withInst st k a P ∧ memS (namesOf Cl) x = true := by
  unfold attrsOf at h
  unfold withInst
  cases e : mlk st.mem k with
  | none => replace h := e ▸ h; exact nsE h
  | some c =>
    replace h := e ▸ h
    obtain ⟨k', dx, o⟩ := c
    induction o with
    | attrs a' Cl' as' =>
      replace h : (match memS (namesOf Cl') x with | true => some (a', Cl', as') | false => none) = some (a, Cl, as) := h
      cases q : memS (namesOf Cl') x with
      | true => replace h := q ▸ h; cases h; exact ⟨⟨rfl, p⟩, q⟩
      | false => replace h := q ▸ h; exact nsE h
    | _ => exact nsE h
/-- an attribute of an object is read -/
theorem Ga.at {C : Cx} (ok : C.Ok) (hK : C.K = KP C.w.params) {st : St} {k : Nat} {a : Addr} {x : Str} {v : SV} {Q : SV → St → Prop} (h : gaF st k x = some (a, v)) (q : Q v st) : Ga C (.ref k a) x st Q := by
  refine Ga.own ok ?_
  unfold gaF at h
  cases e : attrsOf st k x with
  | none => replace h := e ▸ h; exact nsE h
  | some p =>
    obtain ⟨a', Cl, as⟩ := p
    replace h := e ▸ h
    replace h : (match lk as x with | none => none | some v => match handed v with | true => some (a', v) | false => none) = some (a, v) := h
    cases e2 : lk as x with
    | none => replace h := e2 ▸ h; exact nsE h
    | some w =>
      replace h := e2 ▸ h
      replace h : (match handed w with | true => some (a', w) | false => none) = some (a, v) := h
      cases e3 : handed w with
      | false => replace h := e3 ▸ h; exact nsE h
      | true =>
        replace h := e3 ▸ h
        obtain ⟨rfl, rfl⟩ := Prod.mk.inj (Option.some.inj h)
        have h2 := (attrsOf_some (P := fun _ _ => True) e trivial).2
        have := memS_all (ownAll C.w.params Cl) h2
        obtain ⟨q1, _⟩ := Bool.and_eq_true_iff.mp this
        unfold ownB at q1
        obtain ⟨q1, q3⟩ := Bool.and_eq_true_iff.mp q1
        obtain ⟨q1, q2⟩ := Bool.and_eq_true_iff.mp q1
        refine (attrsOf_some e ?_).1
        refine rg hK (rg e2 ?_)
        refine ⟨⟨q1, q2, ?_⟩, e3, q⟩
        cases ha : findIn (KP C.w.params) (.ref Cl) x with
        | none => replace q3 := ha ▸ q3; exact ftE q3
        | some attr => replace q3 := ha ▸ q3; exact ⟨attr, rfl, q3⟩
theorem Sa.at {C : Cx} (ok : C.Ok) (hK : C.K = KP C.w.params) {st : St} {k : Nat} {a : Addr} {x : Str} {v : SV} {m : List Cell} {Q : St → Prop} (h : saF st k x v = some (a, m)) (q : Q { st with mem := m }) : Sa C (.ref k a) v x st Q := by
  refine Sa.own ok ?_
  unfold saF at h
  cases e : attrsOf st k x with
  | none => replace h := e ▸ h; exact nsE h
  | some p =>
    obtain ⟨a', Cl, as⟩ := p
    replace h := e ▸ h
    replace h : (match Nat.ble as.length 900 with | true => some (a', mset st.mem k (.attrs a' Cl (setL as x v))) | false => none) = some (a, m) := h
    cases e2 : Nat.ble as.length 900 with
    | false => replace h := e2 ▸ h; exact nsE h
    | true =>
      replace h := e2 ▸ h
      obtain ⟨rfl, rfl⟩ := Prod.mk.inj (Option.some.inj h)
      have h2 := (attrsOf_some (P := fun _ _ => True) e trivial).2
      have := memS_all (ownAll C.w.params Cl) h2
      obtain ⟨_, q1⟩ := Bool.and_eq_true_iff.mp this
      unfold setB at q1
      obtain ⟨q1, q4⟩ := Bool.and_eq_true_iff.mp q1
      obtain ⟨q1, q3⟩ := Bool.and_eq_true_iff.mp q1
      obtain ⟨q1, q2⟩ := Bool.and_eq_true_iff.mp q1
      refine (attrsOf_some e ?_).1
      refine rg hK ?_
      refine ⟨⟨by simpa using q1, q2, ?_, q4⟩, Nat.le_of_ble_eq_true e2, q⟩
      cases ha : takerIn (KP C.w.params) Cl x with
      | none => replace q3 := ha ▸ q3; exact ftE q3
      | some o => induction o with
        | none => rfl
        | some => replace q3 := ha ▸ q3; exact ftE q3
end
theorem own647C (P : Params) : OwnCls (KP P) P 647 140 417 where
  obj := ⟨_, _, _, _, rfl, rfl, rfl, rfl⟩
  made := fun M h hP X => Looks.of_peek X (by subst hP; first | rfl | kernel_rfl)
  here := fun M h hP X => Looks.of_peek X (by subst hP; first | rfl | kernel_rfl)
  base := fun M h hP X => Looks.of_peek X (by subst hP; first | rfl | kernel_rfl)
  self := by rfl
  top := by rfl
  call := by rfl
  typ := by rfl
  init := by rfl
  fn := by rfl
  meta_ := by rfl
  reads := by rfl
  sm := ⟨144, [], by rfl, by rfl⟩
end Mine
end

section
open PySem PySem.W PySem.Calls PyProof.Rows
set_option Elab.async false
set_option maxRecDepth 100000
set_option autoImplicit false
set_option linter.unusedVariables false
set_option maxHeartbeats 400000
namespace Mine
section
variable {C : Cx} {st : St}
theorem isRefs_ne {K : Frag} {M : Model} {A : Around} {E : Value → Shared → Prop} {s : Shared} {x y : Addr} {ox oy : Obj} {n : Bool} {Q : Value → Shared → Prop} (X : K.In s.heap) (hx : K.lookup x = some ox) (hy : K.lookup y = some oy) (hn : x ≠ y) (hc : ox.cls ≠ .type "tuple")
    (h : Q (.bool n) s) : wpAny M A (compareOp (isOp n) (.ref x) (.ref y)) Q E s := by
  induction n
  · exact kto_is (X _ _ hx) (X _ _ hy) hn hc h
  · exact kto_isnot (X _ _ hx) (X _ _ hy) hn hc h
theorem T2.refs_ne (ok : C.Ok) {x y : Addr} {ox oy : Obj} {n : Bool} {Q : Bool → Bool → St → Prop} (hx : C.K.lookup x = some ox) (hy : C.K.lookup y = some oy) (hn : x ≠ y) (hc : ox.cls ≠ .type "tuple") (h : Q true n st) : T2 C (isOp n) (.con (.ref x)) (.con (.ref y)) st Q := by
  intro R s v w r hv hw; (first | obtain ⟨_, rfl⟩ := VR.str' hv | obtain ⟨_, rfl⟩ := VR.int' hv | obtain rfl := VR.ref' hv | obtain rfl := VR.con' hv | obtain ⟨_, rfl, _⟩ := VR.bm' hv | obtain ⟨rfl, _⟩ := VR.fz' hv | obtain rfl := VR.bool' hv | obtain rfl := VR.none' hv | cases hv); (first | obtain ⟨_, rfl⟩ := VR.str' hw | obtain ⟨_, rfl⟩ := VR.int' hw | obtain rfl := VR.ref' hw | obtain rfl := VR.con' hw | obtain ⟨_, rfl, _⟩ := VR.bm' hw | obtain ⟨rfl, _⟩ := VR.fz' hw | obtain rfl := VR.bool' hw | obtain rfl := VR.none' hw | cases hw)
  obtain ⟨m, F, _⟩ := r.fr
  exact isRefs_ne (ok.X.keeps F.keep) hx hy hn hc ⟨R, .rfl, true, n, st, rfl, r, h⟩
theorem T2.refs_eq (ok : C.Ok) {x : Addr} {n : Bool} {Q : Bool → Bool → St → Prop} (h : Q true (!n) st) : T2 C (isOp n) (.con (.ref x)) (.con (.ref x)) st Q := by
  intro R s v w r hv hw; (first | obtain ⟨_, rfl⟩ := VR.str' hv | obtain ⟨_, rfl⟩ := VR.int' hv | obtain rfl := VR.ref' hv | obtain rfl := VR.con' hv | obtain ⟨_, rfl, _⟩ := VR.bm' hv | obtain ⟨rfl, _⟩ := VR.fz' hv | obtain rfl := VR.bool' hv | obtain rfl := VR.none' hv | cases hv); (first | obtain ⟨_, rfl⟩ := VR.str' hw | obtain ⟨_, rfl⟩ := VR.int' hw | obtain rfl := VR.ref' hw | obtain rfl := VR.con' hw | obtain ⟨_, rfl, _⟩ := VR.bm' hw | obtain ⟨rfl, _⟩ := VR.fz' hw | obtain rfl := VR.bool' hw | obtain rfl := VR.none' hw | cases hw)
  exact same_ok (c := true) (Q := Q) r (b := true) (by unfold isSame; simp) (by induction n <;> exact h)
theorem Me.objectNew (ok : C.Ok) (hf : findCls C.K (.type "object") (.type "type") "__new__" = some (.val (.builtin "object.__new__"))) {Q : SV → List SV → St → Prop} (h : Q (.con (.builtin "object.__new__")) [] st) : Me C (.con (.type "object")) "__new__" st Q := by
  intro R s v pl r hv; (first | obtain ⟨_, rfl⟩ := VR.str' hv | obtain ⟨_, rfl⟩ := VR.int' hv | obtain rfl := VR.ref' hv | obtain rfl := VR.con' hv | obtain ⟨_, rfl, _⟩ := VR.bm' hv | obtain ⟨rfl, _⟩ := VR.fz' hv | obtain rfl := VR.bool' hv | obtain rfl := VR.none' hv | cases hv)
  obtain ⟨m, F, _⟩ := r.fr
  refine method_type (name := "__new__") (T := "object") (v := .builtin "object.__new__") F ok.X meta_object (by decide +kernel) ?_ ?_ ?_
  · exact hf
  · rfl
  · exact ⟨R, .rfl, _, _, st, r.toks _, .con, .nil, h⟩
end
section
variable {prog : Program} {w : World} {A : Around} {g : Heap} {L : Addr} {fa : Addr} {name : Str} {cd : Value} {os : OsState} {ban : List Addr} {outs : List (Addr × Obj)} {oenv : List Env} {Q : SF → St → Prop}
theorem ionew_body (hQ : ∀ x dx, Q (.ret (.ref 0 x)) (instSt ⟨[("cls", .con (.ref 647)), ("args", .any), ("kwargs", .any)], [], 0⟩ 647 x dx)) (ok : (cX prog w A g L name (fScope (stIn 21 1)) fa cd [] [] os ban outs oenv).Ok) :
    Es (cX prog w A g L name (fScope (stIn 21 1)) fa cd [] [] os ban outs oenv) (execs (fBody (stIn 21 1)) (Cx.env (cX prog w A g L name (fScope (stIn 21 1)) fa cd [] [] os ban outs oenv))) ⟨[("cls", .con (.ref 647)), ("args", .any), ("kwargs", .any)], [], 0⟩ Q := by
  refine blkR_ok (ev_ok ok 30) _ _ _ ?_
  refine T2.refs_ne (n := true) ok (show (KP w.params).lookup 647 = some _ from rfl) (show (KP w.params).lookup 400 = some _ from rfl) (by decide) (by decide) ?_
  refine T2.refs_eq (n := true) ok ?_
  refine Me.objectNew ok (by rfl) ?_
  refine ⟨rfl, Cl.newOwn ok (own647C w.params) fun x dx => ?_⟩
  exact hQ x dx
end
theorem ionew_cu {C : Cx} (G : Good C 0) {A0 : Around} (hA : A0.depth + 1 < 900) (hAh : SameA A0 C.A) {c : Bool} {y : S} {st : St} {Q : SV → St → Prop} (h : ∀ x dx, Q (.ref st.nk x) (instSt st 647 x dx)) : Cu C A0 (.con (.ref 140)) [.con (.ref 647), .str c y] [] st Q := by
  revert hAh
  refine G.elim (P := fun C => SameA A0 C.A → Cu C A0 (.con (.ref 140)) [.con (.ref 647), .str c y] [] st Q) fun prog w A g L name scope fa cd cells cvs os ban outs oenv ok hroom hAh => ?_
  refine Cu.userB ok hAh (loc := [("cls", .con (.ref 647)), ("args", .any), ("kwargs", .any)]) (fk := []) (ft := []) (show (KP w.params).lookup 140 = some _ from rfl) rfl hA .nil rfl ?_ rfl (by decide +kernel : List.Nodup (["cls", "args", "kwargs"] : List Str)) ?_ ?_
  · intro R s ws ks r hw hk A Q E hq
    obtain ⟨v, t, rfl, h1, hw⟩ := hw.uncons
    obtain ⟨v2, t, rfl, h2, h3⟩ := hw.uncons
    have := h3.unnil; subst this
    have := hk.unnil; subst this
    unfold bindArgs
    repeat lk
    refine hq R _ [v, _, _] .rfl ?_ (.cons h1 (.cons .any (.cons .any .nil)))
    exact r.keep (fun b o e => Heap.get?_push_of_some _ (Heap.get?_push_of_some _ e)) rfl rfl
  · decide +kernel
  · intro A' g L ban outs ok' hA
    refine ionew_body (fun x dx => ?_) ok'
    refine ⟨[⟨0, dx, .attrs x 647 []⟩], [], .ref st.nk x, List.Sublist.refl _, rfl, fun R y h => by cases h; exact .ref, ?_⟩
    exact h x dx
end Mine
end

section
open PySem PySem.W PySem.Calls PyProof.Rows
set_option Elab.async false
set_option maxRecDepth 100000
set_option autoImplicit false
set_option linter.unusedVariables false
set_option maxHeartbeats 400000
namespace Mine
theorem Fin.set1 {C : Cx} {st st2 : St} {Q : SV → St → Prop} {k : Nat} {c : Cell} {o' : SO} {f : SF} {w : SV} (hv : ∀ R x, VR R (retV f) x → VR R w x) (hs : List.Sublist [(⟨0, c.a, o'⟩ : Cell)] st2.mem) (h : Q w ⟨st.loc, mset st.mem k o', st.nk⟩) : Fin C st [k] [c] Q f st2 :=
  ⟨[], [⟨0, c.a, o'⟩], w, hs, rfl, hv, h⟩
theorem Fin.keep1 {C : Cx} {st st2 : St} {Q : SV → St → Prop} {k : Nat} {c : Cell} {f : SF} {w : SV} (hm : mlk st.mem k = some c) (hv : ∀ R x, VR R (retV f) x → VR R w x) (hs : List.Sublist [(⟨0, c.a, c.o⟩ : Cell)] st2.mem) (h : Q w st) : Fin C st [k] [c] Q f st2 :=
  Fin.set1 hv hs (by refine rg (mset_same hm) ?_; exact h)
theorem fts1 {mem : List Cell} {k : Nat} {c : Cell} (h : mlk mem k = some c) : fts mem [k] = some [c] := by unfold fts; refine rg h ?_; rfl
section
variable {prog : Program} {w : World} {A : Around} {g : Heap} {L : Addr} {fa : Addr} {name : Str} {cd : Value} {os : OsState} {ban : List Addr} {outs : List (Addr × Obj)} {oenv : List Env} {Q : SF → St → Prop} {x dx : Addr}
/-! StringIO -/
noncomputable def sioA (y : S) (p : Int) : List (Str × SV) := [("_StringIO__newline", .str true [10]), ("_StringIO__buf", .str false y), ("_StringIO__pos", .int false p)]
theorem translated_body {as : List (Str × SV)} (hn : lk as "_StringIO__newline" = some (.str true [10])) {y : S} (hQ : ∀ st, List.Sublist [(⟨0, dx, .attrs x 647 as⟩ : Cell)] st.mem → Q (.ret (.str false y)) st) (ok : (cX prog w A g L name (fScope (stIn 25 2)) fa cd [] [] os ban outs oenv).Ok) :
    Es (cX prog w A g L name (fScope (stIn 25 2)) fa cd [] [] os ban outs oenv) (execs (fBody (stIn 25 2)) (Cx.env (cX prog w A g L name (fScope (stIn 25 2)) fa cd [] [] os ban outs oenv))) ⟨[("self", .ref 0 x), ("s", .str false y)], [⟨0, dx, .attrs x 647 as⟩], 1⟩ Q := by
  refine blkR_ok (ev_ok ok 30) _ _ _ ?_
  refine Ga.at ok rfl (v := .str true [10]) (show (match lk as "_StringIO__newline" with | none => none | some v => match handed v with | true => some (x, v) | false => none) = _ by refine rg hn ?_; rfl) ?_
  exact hQ _ (List.Sublist.refl _)
end
theorem translated_cl {C : Cx} (G : Good C 1) {k : Nat} {x dx : Addr} {as : List (Str × SV)} {y : S} {st : St} {Q : SV → St → Prop} (hm : mlk st.mem k = some ⟨k, dx, .attrs x 647 as⟩) (hn : lk as "_StringIO__newline" = some (.str true [10]))
    (h : Q (.str false y) st) : Cl C (.con (.ref 424)) [.ref k x, .str false y] [] st Q := by
  refine G.elim (P := fun C => Cl C (.con (.ref 424)) [.ref k x, .str false y] [] st Q) fun prog w A g L name scope fa cd cells cvs os ban outs oenv ok hroom => ?_
  refine Cu.cl (Cu.user ok rfl .rfl (loc := [("self", .ref 0 x), ("s", .str false y)]) (fk := [k]) (ft := [⟨k, dx, .attrs x 647 as⟩]) (show (KP w.params).lookup 424 = some _ from rfl) rfl hroom (by simp) (fts1 hm) ?_ rfl (by decide +kernel : List.Nodup (["self", "s"] : List Str)) ?_ ?_)
  · intro R s ws ks r hw hk
    obtain ⟨v, t, rfl, h1, hw⟩ := hw.uncons
    obtain ⟨v2, t, rfl, h2, h3⟩ := hw.uncons
    have := h3.unnil; subst this
    have := hk.unnil; subst this
    cases h1
    exact ⟨[_, _], .cons .ref (.cons h2 .nil), BindsTo.of_eq rfl⟩
  · decide +kernel
  · intro A' g L ban outs ok' hA
    exact translated_body hn (fun st2 hs => Fin.keep1 hm (fun _ _ h => h) hs h) ok'
noncomputable def sioI (y : S) : List (Str × SV) := [("_StringIO__newline", .str true [10]), ("_StringIO__buf", .str false y), ("_StringIO__pos", .int true 0)]
section
variable {prog : Program} {w : World} {A : Around} {g : Heap} {L : Addr} {fa : Addr} {name : Str} {cd : Value} {os : OsState} {ban : List Addr} {outs : List (Addr × Obj)} {oenv : List Env} {Q : SF → St → Prop} {x dx : Addr}
theorem sinit_body {y : S} (hQ : ∀ st, List.Sublist [(⟨0, dx, .attrs x 647 (sioI y)⟩ : Cell)] st.mem → Q .next st) (hA : A.depth + 1 < 900) (ok : (cX prog w A g L name (fScope (stIn 25 1)) fa cd [] [] os ban outs oenv).Ok) :
    Es (cX prog w A g L name (fScope (stIn 25 1)) fa cd [] [] os ban outs oenv) (execs (fBody (stIn 25 1)) (Cx.env (cX prog w A g L name (fScope (stIn 25 1)) fa cd [] [] os ban outs oenv))) ⟨[("self", .ref 0 x), ("initial_value", .str false y), ("newline", .str true [10])], [⟨0, dx, .attrs x 647 []⟩], 1⟩ Q := by
  refine blkR_ok (ev_ok ok 30) _ _ _ ?_
  refine ⟨rfl, Cl.type_str ?_⟩
  refine ⟨rfl, Cl.type_str ?_⟩
  refine Sa.at ok rfl rfl ?_
  refine Sa.at ok rfl rfl ?_
  refine Sa.at ok rfl rfl ?_
  refine Me.inst ok ⟨rfl, ⟨rfl, rfl, rfl, rfl⟩, ?_⟩
  refine ⟨rfl, translated_cl (good ok hA) rfl rfl ?_⟩
  refine Sa.at ok rfl rfl ?_
  exact hQ _ (List.Sublist.refl _)
end
theorem sinit_cu {C : Cx} (G : Good C 0) {A0 : Around} (hA : A0.depth + 2 < 900) (hAh : SameA A0 C.A) {k : Nat} {x dx : Addr} {y : S} {st : St} {Q : SV → St → Prop} (hm : mlk st.mem k = some ⟨k, dx, .attrs x 647 []⟩)
    (h : Q .none ⟨st.loc, mset st.mem k (.attrs x 647 (sioI y)), st.nk⟩) : Cu C A0 (.con (.ref 417)) [.ref k x, .str false y] [] st Q := by
  revert hAh
  refine G.elim (P := fun C => SameA A0 C.A → Cu C A0 (.con (.ref 417)) [.ref k x, .str false y] [] st Q) fun prog w A g L name scope fa cd cells cvs os ban outs oenv ok hroom hAh => ?_
  refine Cu.userB ok hAh (loc := [("self", .ref 0 x), ("initial_value", .str false y), ("newline", .str true [10])]) (fk := [k]) (ft := [⟨k, dx, .attrs x 647 []⟩]) (show (KP w.params).lookup 417 = some _ from rfl) rfl (by lia) (by simp) (fts1 hm) (Binds.of ?_) rfl (by decide +kernel : List.Nodup (["self", "initial_value", "newline"] : List Str)) ?_ ?_
  · intro R s ws ks r hw hk
    obtain ⟨v, t, rfl, h1, hw⟩ := hw.uncons
    obtain ⟨v2, t, rfl, h2, h3⟩ := hw.uncons
    have := h3.unnil; subst this
    have := hk.unnil; subst this
    cases h1
    obtain ⟨m, F, _⟩ := r.fr
    exact ⟨[_, _, _], .cons .ref (.cons h2 (.cons .str .nil)), BindsTo.of_defaults (T := 410) rfl ((ok.X.keeps F.keep) 410 _ rfl) rfl rfl rfl⟩
  · decide +kernel
  · intro A' g L ban outs ok' hA'
    exact sinit_body (fun st2 hs => Fin.set1 (fun _ _ h => h) hs h) (by lia) ok'
/-- StringIO of a text -/
theorem sio_cl {C : Cx} (G : Good C 4) {y : S} {st : St} {Q : SV → St → Prop} (h : ∀ x dx, Q (.ref st.nk x) ⟨st.loc, ⟨st.nk, dx, .attrs x 647 (sioI y)⟩ :: st.mem, st.nk + 1⟩) : Cl C (.con (.ref 647)) [.str false y] [] st Q := by
  refine G.elim (P := fun C => Cl C (.con (.ref 647)) [.str false y] [] st Q) fun prog w A g L name scope fa cd cells cvs os ban outs oenv ok hroom => ?_
  refine Cu.cl (Cu.makeOwn ok .rfl (own647C w.params) (by rfl) fun A1 h1 h2 => ?_)
  have hd : A1.depth = A.depth + 1 := h1
  refine ionew_cu (good ok (by first | exact dp hA rfl | lia)) (by lia) h2 fun x dx => ?_
  have hm : mlk (instSt st 647 x dx).mem st.nk = some ⟨st.nk, dx, .attrs x 647 []⟩ := by
    unfold instSt
    exact rg (mlk_cons ..) (rg (Nat.beq_refl ..) rfl)
  have hs : mset (instSt st 647 x dx).mem st.nk (.attrs x 647 (sioI y)) = ⟨st.nk, dx, .attrs x 647 (sioI y)⟩ :: st.mem := by
    unfold instSt
    exact rg (mset_cons ..) (rg (Nat.beq_refl ..) rfl)
  refine ⟨?_, sinit_cu (good ok (by first | exact dp hA rfl | lia)) (by lia) h2 hm ⟨rfl, ?_⟩⟩
  · unfold withInst
    refine rg hm ?_
    exact ⟨rfl, rfl⟩
  · refine rg hs ?_; exact h x dx
end Mine
end

section
open PySem PySem.W PySem.Calls PyProof.Rows
set_option Elab.async false
set_option maxRecDepth 100000
set_option autoImplicit false
set_option linter.unusedVariables false
set_option maxHeartbeats 400000
namespace Mine
theorem cut1 (c : Nat) : PySem.Txt.slice ⟨([c] ++ [32] : List Nat).toArray⟩ none (some (-1)) = ⟨[c].toArray⟩ := by
  have h : Builtin.Str.strSliceIndices none (some (-1)) 1 2 = [0] := by decide +kernel
  unfold PySem.Txt.slice
  refine rg (show (⟨([c] ++ [32] : List Nat).toArray⟩ : Str).length = 2 from rfl) (rg h ?_)
  rfl
theorem slice1 (d r : S) (c : Nat) : PySem.Txt.slice ⟨(d ++ c :: r).toArray⟩ (some (d.length : Int)) (some ((d.length : Int) + 1)) = ⟨[c].toArray⟩ := by
  have := slice_closes (x := ⟨(d ++ c :: r).toArray⟩) (i := d.length) (j := (d.length : Int) + 1) ⟨by lia, by lia, by simp; lia⟩
  have := beq_iff_eq.mp this
  refine rg this ?_
  have e : ((d.length : Int) + 1 - d.length).toNat = 1 := by lia
  refine rg e ?_
  simp
section
variable {prog : Program} {w : World} {A : Around} {g : Heap} {L : Addr} {fa : Addr} {name : Str} {cd : Value} {os : OsState} {ban : List Addr} {outs : List (Addr × Obj)} {oenv : List Env} {Q : SF → St → Prop} {x dx : Addr}
theorem index_body {y : S} {b : Bool} (hQ : ∀ st, Q (.ret (.int true 1)) st) (ok : (cX prog w A g L name (fScope (stAt 19)) fa cd [] [] os ban outs oenv).Ok) :
    Es (cX prog w A g L name (fScope (stAt 19)) fa cd [] [] os ban outs oenv) (execs (fBody (stAt 19)) (Cx.env (cX prog w A g L name (fScope (stAt 19)) fa cd [] [] os ban outs oenv))) ⟨[("n", .int true 1), ("what", .str b y)], [], 0⟩ Q := by
  refine blkR_ok (ev_ok ok 30) _ _ _ ?_
  refine ⟨rfl, Cl.type_int ?_⟩
  refine ⟨rfl, Cl.int_int ?_⟩
  exact hQ _
theorem check_body {as : List (Str × SV)} {b : Bool} {y : S} (hn : lk as "_StringIO__buf" = some (.str b y)) (hQ : ∀ st, List.Sublist [(⟨0, dx, .attrs x 647 as⟩ : Cell)] st.mem → Q .next st) (ok : (cX prog w A g L name (fScope (stIn 25 3)) fa cd [] [] os ban outs oenv).Ok) :
    Es (cX prog w A g L name (fScope (stIn 25 3)) fa cd [] [] os ban outs oenv) (execs (fBody (stIn 25 3)) (Cx.env (cX prog w A g L name (fScope (stIn 25 3)) fa cd [] [] os ban outs oenv))) ⟨[("self", .ref 0 x)], [⟨0, dx, .attrs x 647 as⟩], 1⟩ Q := by
  refine blkR_ok (ev_ok ok 30) _ _ _ ?_
  refine Ga.at ok rfl (v := .str b y) (show (match lk as "_StringIO__buf" with | none => none | some v => match handed v with | true => some (x, v) | false => none) = _ by refine rg hn ?_; rfl) ?_
  exact hQ _ (List.Sublist.refl _)
end
theorem index_cl {C : Cx} (G : Good C 1) {b : Bool} {y : S} {st : St} {Q : SV → St → Prop} (h : Q (.int true 1) st) : Cl C (.con (.ref 113)) [.int true 1, .str b y] [] st Q := by
  refine G.elim (P := fun C => Cl C (.con (.ref 113)) [.int true 1, .str b y] [] st Q) fun prog w A g L name scope fa cd cells cvs os ban outs oenv ok hroom => ?_
  refine Cu.cl (Cu.user ok rfl .rfl (loc := [("n", .int true 1), ("what", .str b y)]) (fk := []) (ft := []) (show (KP w.params).lookup 113 = some _ from rfl) rfl hroom .nil rfl ?_ rfl (by decide +kernel : List.Nodup (["n", "what"] : List Str)) ?_ ?_)
  · intro R s ws ks r hw hk
    refine ⟨ws, hw, ?_⟩
    obtain ⟨v, t, rfl, h1, hw⟩ := hw.uncons
    obtain ⟨v2, t, rfl, h2, h3⟩ := hw.uncons
    have := h3.unnil; subst this
    have := hk.unnil; subst this
    exact BindsTo.of_eq rfl
  · decide +kernel
  · intro A' g L ban outs ok' hA
    exact index_body (fun st => Fin.pure h) ok'
theorem check_cl {C : Cx} (G : Good C 1) {k : Nat} {x dx : Addr} {as : List (Str × SV)} {b : Bool} {y : S} {st : St} {Q : SV → St → Prop} (hm : mlk st.mem k = some ⟨k, dx, .attrs x 647 as⟩) (hn : lk as "_StringIO__buf" = some (.str b y))
    (h : Q .none st) : Cl C (.con (.ref 431)) [.ref k x] [] st Q := by
  refine G.elim (P := fun C => Cl C (.con (.ref 431)) [.ref k x] [] st Q) fun prog w A g L name scope fa cd cells cvs os ban outs oenv ok hroom => ?_
  refine Cu.cl (Cu.user ok rfl .rfl (loc := [("self", .ref 0 x)]) (fk := [k]) (ft := [⟨k, dx, .attrs x 647 as⟩]) (show (KP w.params).lookup 431 = some _ from rfl) rfl hroom (by simp) (fts1 hm) ?_ rfl (by decide +kernel : List.Nodup (["self"] : List Str)) ?_ ?_)
  · intro R s ws ks r hw hk
    obtain ⟨v, t, rfl, h1, h3⟩ := hw.uncons
    have := h3.unnil; subst this
    have := hk.unnil; subst this
    cases h1
    exact ⟨[_], .cons .ref .nil, BindsTo.of_eq rfl⟩
  · decide +kernel
  · intro A' g L ban outs ok' hA
    exact check_body hn (fun st2 hs => Fin.keep1 hm (fun _ _ h => h) hs h) ok'
section
variable {prog : Program} {w : World} {A : Around} {g : Heap} {L : Addr} {fa : Addr} {name : Str} {cd : Value} {os : OsState} {ban : List Addr} {outs : List (Addr × Obj)} {oenv : List Env} {Q : SF → St → Prop} {x dx : Addr}
theorem read_body {y d r : S} (hy : y = d ++ r) (hz : y.length ≤ 100000) (hA : A.depth + 1 < 900)
    (hQ : ∀ st, match r with
      | [] => List.Sublist [(⟨0, dx, .attrs x 647 (sioA y d.length)⟩ : Cell)] st.mem → Q (.ret (.str true [])) st
      | c :: r' => ∀ b, List.Sublist [(⟨0, dx, .attrs x 647 [("_StringIO__newline", .str true [10]), ("_StringIO__buf", .str false y), ("_StringIO__pos", .int false b)]⟩ : Cell)] st.mem → b = d.length + 1 → Q (.ret (.str false [c])) st)
    (ok : (cX prog w A g L name (fScope (stIn 25 25)) fa cd [] [] os ban outs oenv).Ok) :
    Es (cX prog w A g L name (fScope (stIn 25 25)) fa cd [] [] os ban outs oenv) (execs (fBody (stIn 25 25)) (Cx.env (cX prog w A g L name (fScope (stIn 25 25)) fa cd [] [] os ban outs oenv))) ⟨[("self", .ref 0 x), ("size", .int true 1)], [⟨0, dx, .attrs x 647 (sioA y d.length)⟩], 1⟩ Q := by
  have G := good ok hA
  refine blkR_ok (ev_ok ok 30) _ _ _ ?_
  refine ⟨rfl, index_cl G ?_⟩
  refine Me.inst ok ⟨rfl, ⟨rfl, rfl, rfl, rfl⟩, ?_⟩
  refine ⟨rfl, check_cl G rfl rfl ?_⟩
  refine Ga.at ok rfl rfl ?_
  refine Ga.at ok rfl rfl ?_
  refine ⟨rfl, Cl.len_str (by unfold szB; lia) ?_⟩
  refine ⟨fun hge => ?_, fun hlt => ?_⟩
  · have hr : r = [] := by
      induction r with
      | nil => rfl
      | cons => exfalso; have := of_decide_eq_true hge; subst hy; simp at this; lia
    subst hr
    exact hQ _ (List.Sublist.refl _)
  · induction r with
    | nil => exfalso; have := of_decide_eq_false hlt; subst hy; simp at this
    | cons c r =>
      have hpos : d.length < y.length := by refine rg hy ?_; simp
      refine ⟨fun h1 => ?_, fun h1 => ?_⟩
      · refine Sa.at ok rfl rfl ?_
        refine Ga.at ok rfl rfl ?_
        refine ⟨[c], by refine rg hy ?_; exact slice1 d r c, by unfold szB; lia, ?_⟩
        refine ⟨Nat.le_of_ble_eq_true rfl, ?_⟩
        refine ⟨[c], cut1 c, Nat.le_of_ble_eq_true rfl, ?_⟩
        exact hQ _ _ (List.Sublist.refl _) rfl
      · have e : (y.length : Int) = d.length + 1 := by
          have := of_decide_eq_false h1
          lia
        refine Sa.at ok rfl rfl ?_
        refine Ga.at ok rfl rfl ?_
        refine ⟨[c], by refine rg e (rg hy ?_); exact slice1 d r c, by unfold szB; lia, ?_⟩
        refine ⟨Nat.le_of_ble_eq_true rfl, ?_⟩
        refine ⟨[c], cut1 c, Nat.le_of_ble_eq_true rfl, ?_⟩
        exact hQ _ _ (List.Sublist.refl _) e
end
theorem read_cl {C : Cx} (G : Good C 2) {k : Nat} {x dx : Addr} {y d r : S} {st : St} {Q : SV → St → Prop} (hm : mlk st.mem k = some ⟨k, dx, .attrs x 647 (sioA y d.length)⟩) (hy : y = d ++ r) (hz : y.length ≤ 100000)
    (h : match r with
      | [] => Q (.str false []) st
      | c :: _ => Q (.str false [c]) ⟨st.loc, mset st.mem k (.attrs x 647 (sioA y (d.length + 1))), st.nk⟩) : Cl C (.con (.ref 593)) [.ref k x, .int true 1] [] st Q := by
  refine G.elim (P := fun C => Cl C (.con (.ref 593)) [.ref k x, .int true 1] [] st Q) fun prog w A g L name scope fa cd cells cvs os ban outs oenv ok hroom => ?_
  refine Cu.cl (Cu.user ok rfl .rfl (loc := [("self", .ref 0 x), ("size", .int true 1)]) (fk := [k]) (ft := [⟨k, dx, .attrs x 647 (sioA y d.length)⟩]) (show (KP w.params).lookup 593 = some _ from rfl) rfl (show A.depth + 1 < 900 by first | exact dp hroom rfl | exact dp hA rfl | lia) (by simp) (fts1 hm) ?_ rfl (by decide +kernel : List.Nodup (["self", "size"] : List Str)) ?_ ?_)
  · intro R s ws ks r hw hk
    obtain ⟨v, t, rfl, h1, hw⟩ := hw.uncons
    obtain ⟨v2, t, rfl, h2, h3⟩ := hw.uncons
    have := h3.unnil; subst this
    have := hk.unnil; subst this
    cases h1
    obtain ⟨m, F, _⟩ := r.fr
    exact ⟨[_, _], .cons .ref (.cons h2 .nil), BindsTo.of_defaults (T := 586) rfl ((ok.X.keeps F.keep) 586 _ rfl) rfl rfl rfl⟩
  · decide +kernel
  · intro A' g L ban outs ok' hA'
    have hA' : A'.depth = A.depth + 1 := hA'
    refine read_body hy hz (by lia) (fun st2 => ?_) ok'
    induction r with
    | nil => exact fun hs => Fin.keep1 hm (fun _ _ h => SVle.str rfl _ _ h) hs h
    | cons c r => exact fun b hs hb => Fin.set1 (fun _ _ h => h) hs (by refine rg hb ?_; exact h)
end Mine
end

section
open PySem PySem.W PySem.Calls PyProof.Rows
set_option Elab.async false
set_option maxRecDepth 100000
set_option autoImplicit false
set_option genSizeOf false
set_option genInjectivity false
set_option linter.unusedVariables false
set_option maxHeartbeats 800000
namespace Mine
/-- the attributes of a shlex -/
noncomputable def shW : S := (Str.ofString "abcdfeghijklmnopqrstuvwxyzABCDEFGHIJKLMNOPQRSTUVWXYZ0123456789_").cps.toList ++ (Str.ofString "ßàáâãäåæçèéêëìíîïðñòóôõöøùúûüýþÿÀÁÂÃÄÅÆÇÈÉÊËÌÍÎÏÐÑÒÓÔÕÖØÙÚÛÜÝÞ").cps.toList
structure ShP where
  x' : Addr
  com : S
  wss : Bool
  a1 : Addr
  a2 : Addr
noncomputable def shA (p : ShP) (state : SV) (ln : SV) (tok : SV) : List (Str × SV) :=
  [("instream", .ref 1 p.x'), ("infile", .none), ("posix", .bool true true), ("eof", .none), ("commenters", .str true p.com), ("wordchars", .str true shW), ("whitespace", .str true [32, 9, 13, 10]), ("whitespace_split", .bool true p.wss),
   ("quotes", .str true [39, 34]), ("escape", .str true [92]), ("escapedquotes", .str true [34]), ("state", state), ("pushback", .fz p.a1 dqO), ("lineno", ln), ("debug", .int true 0), ("token", tok), ("filestack", .fz p.a2 dqO), ("source", .none), ("_punctuation_chars", .str true [])]
section
variable {prog : Program} {w : World} {A : Around} {g : Heap} {L : Addr} {fa : Addr} {name : Str} {cd : Value} {os : OsState} {ban : List Addr} {outs : List (Addr × Obj)} {oenv : List Env} {Q : SF → St → Prop} {x dx : Addr}
theorem shinit_body {y : S} (hQ : ∀ x' dx' a1 a2 st, List.Sublist [(⟨1, dx', .attrs x' 647 (sioI y)⟩ : Cell), ⟨0, dx, .attrs x 782 (shA ⟨x', [35], false, a1, a2⟩ (.str true [32]) (.int true 1) (.str true []))⟩] st.mem → Q .next st) (hA : A.depth + 4 < 900) (ok : (cX prog w A g L name (fScope (stIn 34 0)) fa cd [] [] os ban outs oenv).Ok) :
    Es (cX prog w A g L name (fScope (stIn 34 0)) fa cd [] [] os ban outs oenv) (execs (fBody (stIn 34 0)) (Cx.env (cX prog w A g L name (fScope (stIn 34 0)) fa cd [] [] os ban outs oenv)))
      ⟨[("self", .ref 0 x), ("instream", .str false y), ("infile", .none), ("posix", .bool true true), ("punctuation_chars", .bool true false)], [⟨0, dx, .attrs x 782 []⟩], 1⟩ Q := by
  have G := good ok hA
  refine blkR_ok (ev_ok ok 30) _ _ _ ?_
  refine ⟨rfl, Cl.isinst_str ?_⟩
  refine ⟨rfl, sio_cl G fun x' dx' => ?_⟩
  repeat (first
    | refine Sa.at ok rfl rfl ?_
    | refine Ga.at ok rfl rfl ?_
    | refine ⟨rfl, Cl.dq ok fun _ => ?_⟩)
  exact hQ _ _ _ _ _ (List.Sublist.refl _)
end
theorem shinit_cu {C : Cx} (G : Good C 0) {A0 : Around} (hA : A0.depth + 5 < 900) (hAh : SameA A0 C.A) {k : Nat} {x dx : Addr} {y : S} {st : St} {Q : SV → St → Prop} (hm : mlk st.mem k = some ⟨k, dx, .attrs x 782 []⟩)
    (h : ∀ x' dx' a1 a2, Q .none ⟨st.loc, ⟨st.nk, dx', .attrs x' 647 (sioI y)⟩ :: mset st.mem k (.attrs x 782 (shA ⟨x', [35], false, a1, a2⟩ (.str true [32]) (.int true 1) (.str true []))), st.nk + 1⟩) :
    Cu C A0 (.con (.ref 706)) [.ref k x, .str false y] [("posix", .bool true true)] st Q := by
  revert hAh
  refine G.elim (P := fun C => SameA A0 C.A → Cu C A0 (.con (.ref 706)) [.ref k x, .str false y] [("posix", .bool true true)] st Q) fun prog w A g L name scope fa cd cells cvs os ban outs oenv ok hroom hAh => ?_
  refine Cu.userB ok hAh (loc := [("self", .ref 0 x), ("instream", .str false y), ("infile", .none), ("posix", .bool true true), ("punctuation_chars", .bool true false)]) (fk := [k]) (ft := [⟨k, dx, .attrs x 782 []⟩]) (show (KP w.params).lookup 706 = some _ from rfl) rfl (by lia) (by simp) (fts1 hm) (Binds.of ?_) rfl (by decide +kernel : List.Nodup (["self", "instream", "infile", "posix", "punctuation_chars"] : List Str)) ?_ ?_
  · intro R s ws ks r hw hk
    obtain ⟨v, t, rfl, h1, hw⟩ := hw.uncons
    obtain ⟨v2, t, rfl, h2, h3⟩ := hw.uncons
    have := h3.unnil; subst this
    obtain ⟨v4, t, rfl, h4, h5⟩ := hk.uncons
    have := h5.unnil; subst this
    cases h1
    obtain ⟨m, F, _⟩ := r.fr
    exact ⟨[_, _, _, _, _], .cons .ref (.cons h2 (.cons .none (.cons h4 (.cons .bool .nil)))), BindsTo.of_defaults (T := 699) rfl ((ok.X.keeps F.keep) 699 _ rfl) rfl rfl rfl⟩
  · decide +kernel
  · intro A' g L ban outs ok' hA'
    refine shinit_body (fun x' dx' a1 a2 st2 hs => ?_) (by lia) ok'
    exact ⟨[⟨1, dx', .attrs x' 647 (sioI y)⟩], [⟨0, dx, _⟩], .none, hs, rfl, fun _ _ h => h, h x' dx' a1 a2⟩
/-- shlex of a text -/
theorem shlex_cl {C : Cx} (G : Good C 6) {y : S} {st : St} {Q : SV → St → Prop} (h : ∀ x dx x' dx' a1 a2, Q (.ref st.nk x) ⟨st.loc, ⟨st.nk + 1, dx', .attrs x' 647 (sioI y)⟩ :: ⟨st.nk, dx, .attrs x 782 (shA ⟨x', [35], false, a1, a2⟩ (.str true [32]) (.int true 1) (.str true []))⟩ :: st.mem, st.nk + 2⟩) :
    Cl C (.con (.ref 782)) [.str false y] [("posix", .bool true true)] st Q := by
  refine G.elim (P := fun C => Cl C (.con (.ref 782)) [.str false y] [("posix", .bool true true)] st Q) fun prog w A g L name scope fa cd cells cvs os ban outs oenv ok hroom => ?_
  refine Cu.cl (Cu.make ok .rfl (fI := 706) (by rfl) (by rfl) (by rfl) fun x dx A1 h1 h2 => ?_)
  have hd : A1.depth = A.depth + 1 := h1
  have hm : mlk (instSt st 782 x dx).mem st.nk = some ⟨st.nk, dx, .attrs x 782 []⟩ := by
    unfold instSt
    exact rg (mlk_cons ..) (rg (Nat.beq_refl ..) rfl)
  refine shinit_cu (good ok (by first | exact dp hA rfl | lia)) (by lia) h2 hm fun x' dx' a1 a2 => ⟨rfl, ?_⟩
  have hs : mset (instSt st 782 x dx).mem st.nk (.attrs x 782 (shA ⟨x', [35], false, a1, a2⟩ (.str true [32]) (.int true 1) (.str true []))) = ⟨st.nk, dx, .attrs x 782 (shA ⟨x', [35], false, a1, a2⟩ (.str true [32]) (.int true 1) (.str true []))⟩ :: st.mem := by
    unfold instSt
    exact rg (mset_cons ..) (rg (Nat.beq_refl ..) rfl)
  refine rg hs ?_
  exact h x dx x' dx' a1 a2
end Mine
end

section
open PySem PySem.W PySem.Calls PyProof.Rows
noncomputable section
set_option Elab.async false
set_option maxRecDepth 100000
set_option autoImplicit false
set_option genSizeOf false
set_option genInjectivity false
set_option linter.unusedVariables false
set_option maxHeartbeats 800000
namespace Mine
section
variable {prog : Program} {w : World} {A : Around} {g : Heap} {L : Addr} {fa : Addr} {name : Str} {cd : Value} {os : OsState} {ban : List Addr} {outs : List (Addr × Obj)} {oenv : List Env} {Q : SF → St → Prop} {x dx : Addr}
theorem punct_body {p : ShP} {s l t : SV} (hQ : ∀ st, List.Sublist [(⟨0, dx, .attrs x 782 (shA p s l t)⟩ : Cell)] st.mem → Q (.ret (.str true [])) st) (ok : (cX prog w A g L name (fScope (stIn 34 1)) fa cd [] [] os ban outs oenv).Ok) :
    Es (cX prog w A g L name (fScope (stIn 34 1)) fa cd [] [] os ban outs oenv) (execs (fBody (stIn 34 1)) (Cx.env (cX prog w A g L name (fScope (stIn 34 1)) fa cd [] [] os ban outs oenv))) ⟨[("self", .ref 0 x)], [⟨0, dx, .attrs x 782 (shA p s l t)⟩], 1⟩ Q := by
  refine blkR_ok (ev_ok ok 30) _ _ _ ?_
  refine Ga.at ok rfl rfl ?_
  exact hQ _ (List.Sublist.refl _)
end
theorem punct {C : Cx} (G : Good C 1) {k : Nat} {x dx : Addr} {p : ShP} {s l t : SV} {st : St} {Q : SV → St → Prop} (hm : mlk st.mem k = some ⟨k, dx, .attrs x 782 (shA p s l t)⟩) (h : Q (.str true []) st) : Ga C (.ref k x) "punctuation_chars" st Q := by
  refine G.elim (P := fun C => Ga C (.ref k x) "punctuation_chars" st Q) fun prog w A g L name scope fa cd cells cvs os ban outs oenv ok hroom => ?_
  refine Ga.prop ok (p := 714) (fget := 713) (rest := [.none, .none, .none, .str "punctuation_chars" 1386, .bool false]) ?_ ?_
  · unfold withInst
    refine rg hm ?_
    exact ⟨rfl, by rfl, by rfl, by rfl, by rfl, by rfl, by rfl⟩
  refine Cu.userB (A0 := A.in1) (Q := fun v st => handed v = true ∧ Q v st) ok ⟨rfl, rfl⟩ (loc := [("self", .ref 0 x)]) (fk := [k]) (ft := [⟨k, dx, .attrs x 782 (shA p s l t)⟩]) (show (KP w.params).lookup 713 = some _ from rfl) rfl (show A.depth + 1 < 900 by first | exact dp hroom rfl | exact dp hA rfl | lia) (by simp) (fts1 hm) (Binds.of ?_) rfl (by decide +kernel : List.Nodup (["self"] : List Str)) ?_ ?_
  · intro R s ws ks r hw hk
    obtain ⟨v, t, rfl, h1, h3⟩ := hw.uncons
    have := h3.unnil; subst this
    have := hk.unnil; subst this
    cases h1
    exact ⟨[_], .cons .ref .nil, BindsTo.of_eq rfl⟩
  · decide +kernel
  · intro A' g L ban outs ok' hA
    exact punct_body (fun st2 hs => Fin.keep1 (w := .str true []) hm (fun _ _ h => h) hs ⟨rfl, h⟩) ok'

/-! one word of a shell's line without quotes -/
noncomputable def ws (c : Nat) : Bool := mbr c [32, 9, 13, 10]
noncomputable def nextW : Option S → S → Option S × Bool × S
  | cur, [] => (cur, true, [])
  | cur, 92 :: c :: r => nextW (some (cur.getD [] ++ [c])) r
  | none, c :: r => match ws c with | true => nextW none r | false => nextW (some [c]) r
  | some t, c :: r => match ws c with | true => (some t, false, r) | false => nextW (some (t ++ [c])) r
/-- no marks, no remark, no open escape -/
noncomputable def okT (com : S) : S → Prop
  | [] => True
  | 92 :: c :: r => okT com r
  | c :: r => c ≠ 92 ∧ c ≠ 39 ∧ c ≠ 34 ∧ mbr c com = false ∧ okT com r
inductive Al : List (Str × SV) → List (Str × SV) → Prop
  | nil : Al [] []
  | cons {x v v' l l'} : SVle v v' → Al l l' → Al ((x, v) :: l) ((x, v') :: l')
theorem Al.refl : ∀ l, Al l l
  | [] => .nil
  | (x, v) :: l => .cons .rfl (Al.refl l)
theorem Al.len {l l' : List (Str × SV)} (h : Al l l') : l.length = l'.length := by induction h <;> simp_all
theorem Al.at {l l' : List (Str × SV)} (h : Al l l') : ∀ (i : Nat) x', l'[i]? = some x' → ∃ x, l[i]? = some x ∧ x.1 = x'.1 ∧ SVle x.2 x'.2 := by
  induction h with
  | nil => intro i x' e; simp at e
  | cons h t ih =>
    intro i x' e
    induction i with
    | zero => simp at e; subst e; exact ⟨_, rfl, rfl, h⟩
    | succ i => simpa using ih i x' (by simpa using e)
theorem OR.al {R : Frz} {dx a C : Addr} {as as' : List (Str × SV)} (h : Al as as') {o : Obj} (q : OR R dx (.attrs a C as) o) : OR R dx (.attrs a C as') o := by
  cases q with
  | attrs h0 hl he =>
    refine .attrs h0 (h.len ▸ hl) fun i x e a b => ?_
    obtain ⟨x0, h1, h2, h3⟩ := h.at i x a
    obtain ⟨⟨t, ht⟩, hv⟩ := he i x0 e h1 b
    exact ⟨⟨t, by exact rg ht (rg h2 rfl)⟩, h3 _ _ hv⟩
theorem shAl {p : ShP} {s s' l l' t t' : SV} (h1 : SVle s s') (h2 : SVle l l') (h3 : SVle t t') : Al (shA p s l t) (shA p s' l' t') :=
  .cons .rfl (.cons .rfl (.cons .rfl (.cons .rfl (.cons .rfl (.cons .rfl (.cons .rfl (.cons .rfl (.cons .rfl (.cons .rfl (.cons .rfl (.cons h1 (.cons .rfl (.cons h2 (.cons .rfl (.cons h3 (.cons .rfl (.cons .rfl (.cons .rfl .nil))))))))))))))))))
theorem siAl {y : S} {b b' : Int} (h : b = b') : Al (sioA y b) (sioA y b') := .cons .rfl (.cons .rfl (.cons (SVle.int h) .nil))
theorem rtLe {C : Cx} {loc loc' : List (Str × SV)} {x dx x' dx' : Addr} {p : ShP} {s s' l l' t t' : SV} {y : S} {b b' : Int} (hl : Lo loc loc') (h1 : SVle s s') (h2 : SVle l l') (h3 : SVle t t') (h4 : b = b') :
    Le C ⟨loc, [⟨0, dx, .attrs x 782 (shA p s l t)⟩, ⟨1, dx', .attrs x' 647 (sioA y b)⟩], 2⟩ ⟨loc', [⟨0, dx, .attrs x 782 (shA p s' l' t')⟩, ⟨1, dx', .attrs x' 647 (sioA y b')⟩], 2⟩ :=
  Le.mk hl (.cons (fun R o h => OR.al (shAl h1 h2 h3) h) (.cons (fun R o h => OR.al (siAl h4) h) .rfl))
theorem nextW_ws {c : Nat} {r : S} (h : ws c = true) : nextW none (c :: r) = nextW none r := by
  have hc : c ≠ 92 := fun q => by subst q; exact absurd h (by decide)
  conv => lhs; unfold nextW
  split <;> simp_all
theorem nextW_esc {c : Nat} {r : S} {cur : Option S} : nextW cur (92 :: c :: r) = nextW (some (cur.getD [] ++ [c])) r := by
  induction cur <;> simp [nextW]
theorem nextW_ch {c : Nat} {r : S} (hc : c ≠ 92) (h : ws c = false) : nextW none (c :: r) = nextW (some [c]) r := by
  conv => lhs; unfold nextW
  split <;> simp_all
theorem nextW_wws {c : Nat} {r t : S} (h : ws c = true) : nextW (some t) (c :: r) = (some t, false, r) := by
  have hc : c ≠ 92 := fun q => by subst q; exact absurd h (by decide)
  conv => lhs; unfold nextW
  split <;> simp_all
theorem nextW_wch {c : Nat} {r t : S} (hc : c ≠ 92) (h : ws c = false) : nextW (some t) (c :: r) = nextW (some (t ++ [c])) r := by
  conv => lhs; unfold nextW
  split <;> simp_all
theorem okT_cons {com : S} {c : Nat} {r : S} (h : okT com (c :: r)) : (c = 92 ∧ ∃ d r', r = d :: r' ∧ okT com r') ∨ (c ≠ 92 ∧ c ≠ 39 ∧ c ≠ 34 ∧ mbr c com = false ∧ okT com r) := by
  unfold okT at h
  split at h
  · rename_i e; exact cnE e
  · rename_i e; simp at e; obtain ⟨rfl, rfl⟩ := e; exact .inl ⟨rfl, _, _, rfl, h⟩
  · rename_i e; simp at e; obtain ⟨rfl, rfl⟩ := e; exact .inr h
end Mine
end
end

section
open PySem PySem.W PySem.Calls PyProof.Rows
set_option Elab.async false
set_option maxRecDepth 100000
set_option autoImplicit false
set_option genSizeOf false
set_option genInjectivity false
set_option linter.unusedVariables false
set_option maxHeartbeats 1600000
namespace Mine
noncomputable abbrev rtSt (x dx dx' : Addr) (p : ShP) (loc : List (Str × SV)) (s : SV) (ln : Int) (t : SV) (y : S) (d : Int) : St :=
  ⟨("self", .ref 0 x) :: ("quoted", .bool true false) :: loc, [⟨0, dx, .attrs x 782 (shA p s (.int false ln) t)⟩, ⟨1, dx', .attrs p.x' 647 (sioA y d)⟩], 2⟩
/-- the machine's place -/
inductive RtAt (com : S) (res : Option S × Bool × S) : SV → SV → SV → S → Prop
  | sp {e : S} {r} (h : nextW none r = res) (k : okT com r) : RtAt com res (.str true [32]) (.str true []) (.str false e) r
  | wd {e t : S} {r} (h : nextW (some t) r = res) (ht : t ≠ []) (k : okT com r) : RtAt com res (.str true [97]) (.str false t) (.str false e) r
  | es {t : S} {c r} (h : nextW (some (t ++ [c])) r = res) (k : okT com r) : RtAt com res (.str true [92]) (.str false t) (.str true [97]) (c :: r)
noncomputable def TokLe (t : SV) (n : Nat) : Prop := match t with
  | .str _ u => u.length ≤ n
  | _ => True
noncomputable def rvT (t : SV) : SV := match t with
  | .str true _ => .none
  | t => t
/-- behind the loop -/
noncomputable def RtEnd (y : S) (res : Option S × Bool × S) (s t : SV) (d : Nat) : Prop :=
  (res = (none, true, []) ∧ s = .none ∧ t = .str true [] ∧ d = y.length) ∨ (∃ u, u ≠ [] ∧ res = (some u, true, []) ∧ s = .none ∧ t = .str false u ∧ d = y.length) ∨
  (∃ u r' d', u ≠ [] ∧ res = (some u, false, r') ∧ s = .str true [32] ∧ t = .str false u ∧ y = d' ++ r' ∧ d = d'.length)
/-- the same goal for any number of the line -/
theorem bothV {α : Type} {b c : Prop} {P G : α → Prop} (key : ∀ y, G y) (h : (∀ y, G y) → ∀ x, b → P x) : ∀ x, (b → P x) ∧ (c → G x) := fun x => ⟨h key x, fun _ => key x⟩
noncomputable def rtI (com : S) (res : Option S × Bool × S) (y : S) (x dx dx' px a1 a2 : Addr) (n : Nat) (st : St) : Prop :=
  ∃ s l t e dd rr, RtAt com res s t e rr ∧ TokLe t dd.length ∧ y = dd ++ rr ∧ n = rr.length ∧ st = rtSt x dx dx' ⟨px, com, true, a1, a2⟩ [("escapedstate", e)] s l t y dd.length
noncomputable def rtP (com : S) (res : Option S × Bool × S) (y : S) (x dx dx' px a1 a2 : Addr) (st : St) : Prop := ∃ s l t dd, RtEnd y res s t dd ∧ st = rtSt x dx dx' ⟨px, com, true, a1, a2⟩ [] s l t y dd
section
variable {prog : Program} {w : World} {A : Around} {g : Heap} {L : Addr} {fa : Addr} {name : Str} {cd : Value} {os : OsState} {ban : List Addr} {outs : List (Addr × Obj)} {oenv : List Env} {Q : SF → St → Prop} {x dx dx' : Addr}
theorem rt_body {px a1 a2 : Addr} {com : S} {p : ShP} {y d r : S} {ln : Int} {res : Option S × Bool × S} (hp : p = ⟨px, com, true, a1, a2⟩) (hy : y = d ++ r) (hz : y.length ≤ 100000) (hres : nextW none r = res) (hok : okT com r) (h92 : mbr 92 com = false) (hQ : ∀ s t dd ln st, RtEnd y res s t dd → List.Sublist [(⟨0, dx, .attrs x 782 (shA ⟨px, com, true, a1, a2⟩ s (.int false ln) (.str true []))⟩ : Cell), ⟨1, dx', .attrs px 647 (sioA y dd)⟩] st.mem → Q (.ret (rvT t)) st) (hA : A.depth + 3 < 900)
    (ok : (cX prog w A g L name (fScope (stIn 34 6)) fa cd [] [] os ban outs oenv).Ok) :
    Es (cX prog w A g L name (fScope (stIn 34 6)) fa cd [] [] os ban outs oenv) (execs (fBody (stIn 34 6)) (Cx.env (cX prog w A g L name (fScope (stIn 34 6)) fa cd [] [] os ban outs oenv)))
      ⟨[("self", .ref 0 x)], [⟨0, dx, .attrs x 782 (shA ⟨px, com, true, a1, a2⟩ (.str true [32]) (.int false ln) (.str true []))⟩, ⟨1, dx', .attrs px 647 (sioA y d.length)⟩], 2⟩ Q := by
  subst hp
  have G := good ok hA
  have G1 := good ok (n := 1) (by first | exact dp hA rfl | lia)
  have G2 := good ok (n := 2) (by first | exact dp hA rfl | lia)
  refine Es.cut ok 30 3 (rtP com res y x dx dx' px a1 a2) ?_ ?_
  · refine ⟨rtI com res y x dx dx' px a1 a2, ⟨_, _, ?_, _, ln, _, _, d, r, .sp (e := [32]) hres hok, Nat.zero_le _, hy, rfl, rfl⟩, ?_⟩
    · exact rtLe (.cons .rfl (.cons .rfl (.cons (SVle.str rfl) .nil))) .rfl .rfl .rfl rfl
    rintro n st ⟨s, l, t, e, dd, rr, hat, htl, hyy, hn, rfl⟩
    refine punct G1 rfl ?_
    refine Ga.at ok rfl rfl ?_
    refine Me.inst ok ⟨rfl, ⟨rfl, rfl, rfl, rfl⟩, ?_⟩
    refine ⟨rfl, read_cl G2 rfl hyy hz ?_⟩
    have dr : ∀ (l : List (Str × SV)) (e e' : SV), SVle e e' → Lo (("self", .ref 0 x) :: ("quoted", .bool true false) :: ("escapedstate", e) :: l) [("self", .ref 0 x), ("quoted", .bool true false), ("escapedstate", e')] := fun l e e' h => .cons .rfl (.cons .rfl (.cons h .drop))
    have dr0 : ∀ (l : List (Str × SV)), Lo (("self", .ref 0 x) :: ("quoted", .bool true false) :: l) [("self", .ref 0 x), ("quoted", .bool true false)] := fun l => .cons .rfl (.cons .rfl .drop)
    cases hat with
    | sp h k =>
      rename_i e
      cases rr with
      | nil =>
        refine ⟨fun q => (by cases q), fun _ => ?_⟩
        refine Ga.at ok rfl rfl ?_
        refine Ga.at ok rfl rfl ?_
        refine Ga.at ok rfl rfl ?_
        refine ⟨Nat.zero_le _, fun q => (by cases q), fun _ => ?_⟩
        refine Sa.at ok rfl rfl ?_
        refine ⟨_, rtLe (dr0 _) .rfl (SVle.int rfl) .rfl rfl, _, _, _, _, .inl ⟨h.symm, rfl, rfl, ?_⟩, rfl⟩
        refine rg hyy ?_; simp
      | cons c rr =>
        have hn' : rr.length < n := by refine rg hn ?_; simp
        have hyy' : y = (dd ++ [c]) ++ rr := by refine rg hyy ?_; simp
        have hdl : dd.length + 1 = (dd ++ [c]).length := by simp
        refine And.elim (fun p q => ⟨p, q⟩) ?_
        revert l
        refine bothV ?l2 (fun key l _ => ?l1)
        case l1 =>
          refine Ga.at ok rfl rfl ?_
          refine Sa.at ok rfl rfl ?_
          exact key _
        case l2 =>
          intro l
          refine Ga.at ok rfl rfl ?_
          refine Ga.at ok rfl rfl ?_
          refine Ga.at ok rfl rfl ?_
          refine ⟨Nat.le_of_ble_eq_true rfl, fun _ => ?_, fun q => (by cases q)⟩
          refine Ga.at ok rfl rfl ?_
          refine ⟨fun hw => ?_, fun hw => ?_⟩
          · refine Ga.at ok rfl rfl ?_
            refine Ga.at ok rfl rfl ?_
            refine Ga.at ok rfl rfl ?_
            have k' : okT com rr := (okT_cons k).elim (fun q => absurd hw (by refine rg q.1 ?_; decide)) fun q => q.2.2.2.2
            exact ⟨rr.length, _, hn', rtLe (dr _ _ _ .rfl) .rfl (SVle.int rfl) .rfl (by simp), _, _, _, _, dd ++ [c], rr, .sp (e := e) (by refine rl (nextW_ws hw) ?_; exact h) k', Nat.zero_le _, hyy', rfl, rfl⟩
          · refine Ga.at ok rfl rfl ?_
            rcases okT_cons k with ⟨rfl, c', r', rfl, k'⟩ | ⟨q1, q2, q3, q4, k'⟩
            · refine ⟨fun q => absurd q (by refine rg (show hasS [92] com = mbr 92 com from rfl) (rg h92 ?_); decide), fun _ => ?_⟩
              refine Ga.at ok rfl rfl ?_
              refine Ga.at ok rfl rfl ?_
              refine ⟨fun _ => ?_, fun q => (by cases q)⟩
              refine Sa.at ok rfl rfl ?_
              exact ⟨(c' :: r').length, _, hn', rtLe (dr _ _ _ .rfl) (SVle.str rfl) (SVle.int rfl) (SVle.str rfl) (by simp), _, _, _, _, dd ++ [92], c' :: r', .es (t := []) (by replace h := nextW_esc ▸ h; exact h) k', Nat.zero_le _, hyy', rfl, rfl⟩
            · refine ⟨fun q => absurd q (by refine rg (show hasS [c] com = mbr c com from rfl) (rg q4 ?_); decide), fun _ => ?_⟩
              refine Ga.at ok rfl rfl ?_
              refine Ga.at ok rfl rfl ?_
              refine ⟨fun q => absurd (List.mem_singleton.mp (mbr_iff.mp q)) q1, fun _ => ?_⟩
              have fin : ∀ (st2 : St), (∃ b1 b2 b3 loc ll, st2 = rtSt x dx dx' ⟨px, com, true, a1, a2⟩ (("escapedstate", .str false e) :: loc) (.str b1 [97]) ll (.str b3 [c]) y b2 ∧ b2 = dd.length + 1) →
                  ∃ m st3, m < n ∧ Le (cX prog w A g L name (fScope (stIn 34 6)) fa cd [] [] os ban outs oenv) st2 st3 ∧ rtI com res y x dx dx' px a1 a2 m st3 := by
                rintro _ ⟨b1, b2, b3, loc, ll, rfl, rfl⟩
                exact ⟨rr.length, _, hn', rtLe (dr _ _ _ .rfl) (SVle.str rfl) (SVle.int rfl) (SVle.str rfl) (by simp), _, _, _, _, dd ++ [c], rr, .wd (t := [c]) (by replace h := (nextW_ch q1 hw) ▸ h; exact h) (by simp) k', by simp [TokLe], hyy', rfl, rfl⟩
              refine Ga.at ok rfl rfl ?_
              refine ⟨fun _ => ?_, fun _ => ?_⟩
              · refine Sa.at ok rfl rfl ?_
                refine Sa.at ok rfl rfl ?_
                exact fin _ ⟨_, _, _, _, _, rfl, rfl⟩
              · refine punct G1 rfl ?_
                refine ⟨fun q => (by cases q), fun _ => ?_⟩
                refine Ga.at ok rfl rfl ?_
                refine ⟨fun q => (by have q : mbr c [39, 34] = true := q; have := mbr_iff.mp q; simp at this; lia), fun _ => ?_⟩
                refine Ga.at ok rfl rfl ?_
                refine Sa.at ok rfl rfl ?_
                refine Sa.at ok rfl rfl ?_
                exact fin _ ⟨_, _, _, _, _, rfl, rfl⟩
    | wd h ht k =>
      rename_i e t
      have hz' : t.length + 1 ≤ szB := by
        have : t.length ≤ dd.length := htl
        have : dd.length ≤ y.length := by refine rg hyy ?_; simp
        unfold szB; lia
      cases rr with
      | nil =>
        refine ⟨fun q => (by cases q), fun _ => ?_⟩
        refine Ga.at ok rfl rfl ?_
        refine Ga.at ok rfl rfl ?_
        refine Ga.at ok rfl rfl ?_
        refine Ga.at ok rfl rfl ?_
        refine Ga.at ok rfl rfl ?_
        refine Ga.at ok rfl rfl ?_
        refine Ga.at ok rfl rfl ?_
        refine Ga.at ok rfl rfl ?_
        refine ⟨Nat.zero_le _, fun q => (by cases q), fun _ => ?_⟩
        refine Sa.at ok rfl rfl ?_
        refine ⟨_, rtLe (dr0 _) .rfl (SVle.int rfl) .rfl rfl, _, _, _, _, .inr (.inl ⟨t, ht, h.symm, rfl, rfl, ?_⟩), rfl⟩
        refine rg hyy ?_; simp
      | cons c rr =>
        have hn' : rr.length < n := by refine rg hn ?_; simp
        have hyy' : y = (dd ++ [c]) ++ rr := by refine rg hyy ?_; simp
        have hdl : dd.length + 1 = (dd ++ [c]).length := by simp
        refine And.elim (fun p q => ⟨p, q⟩) ?_
        revert l
        refine bothV ?l4 (fun key l _ => ?l3)
        case l3 =>
          refine Ga.at ok rfl rfl ?_
          refine Sa.at ok rfl rfl ?_
          exact key _
        case l4 =>
          intro l
          refine Ga.at ok rfl rfl ?_
          refine Ga.at ok rfl rfl ?_
          refine Ga.at ok rfl rfl ?_
          refine Ga.at ok rfl rfl ?_
          refine Ga.at ok rfl rfl ?_
          refine Ga.at ok rfl rfl ?_
          refine Ga.at ok rfl rfl ?_
          refine Ga.at ok rfl rfl ?_
          refine ⟨Nat.le_of_ble_eq_true rfl, fun _ => ?_, fun q => (by exact tfE q)⟩
          refine Ga.at ok rfl rfl ?_
          refine ⟨fun hw => ?_, fun hw => ?_⟩
          · refine Ga.at ok rfl rfl ?_
            refine Sa.at ok rfl rfl ?_
            refine Ga.at ok rfl rfl ?_
            refine ⟨by lia, fun _ => ?_, fun q => ?_⟩
            rotate_left
            · exfalso; induction t with
              | nil => exact ht rfl
              | cons => exact tfE q
            exact ⟨_, rtLe (dr0 _) .rfl (SVle.int rfl) .rfl rfl, _, _, _, _, .inr (.inr ⟨t, rr, dd ++ [c], ht, by refine rl (nextW_wws hw) ?_; exact h.symm, rfl, rfl, hyy', by simp⟩), rfl⟩
          · refine Ga.at ok rfl rfl ?_
            refine (okT_cons k).elim (fun hk => ?_) (fun hk => ?_)
            · have hc := hk.1
              refine hk.2.elim fun c' hk2 => hk2.elim fun r' hk3 => ?_
              have hr := hk3.1
              have k' := hk3.2
              refine ⟨fun q => (by have q : mbr c com = true := q; replace q := h92 ▸ hc ▸ q; exact ftE q), fun _ => ?_⟩
              refine Ga.at ok rfl rfl ?_
              refine Ga.at ok rfl rfl ?_
              refine Ga.at ok rfl rfl ?_
              refine ⟨fun q => (by have q : mbr c [39, 34] = true := q; replace q := hc ▸ q; exact ftE q), fun _ => ?_⟩
              refine Ga.at ok rfl rfl ?_
              refine Ga.at ok rfl rfl ?_
              refine ⟨fun _ => ?_, fun q => (by have q : mbr c [92] = false := q; replace q := hc ▸ q; exact tfE q)⟩
              refine Sa.at ok rfl rfl ?_
              exact ⟨rr.length, _, hn', rtLe (dr _ _ _ .rfl) (SVle.str (by exact rg hc rfl)) (SVle.int rfl) (SVle.str rfl) (by simp), _, _, _, _, dd ++ [c], rr, (by refine rg hr ?_; exact .es (t := t) (by replace h := nextW_esc ▸ hr ▸ hc ▸ h; exact h) k'), Nat.le_trans htl (by simp), hyy', rfl, rfl⟩
            · have q1 := hk.1
              have q2 := hk.2.1
              have q3 := hk.2.2.1
              have q4 := hk.2.2.2.1
              have k' := hk.2.2.2.2
              refine ⟨fun q => absurd q (by refine rg (show hasS [c] com = mbr c com from rfl) (rg q4 ?_); decide), fun _ => ?_⟩
              refine Ga.at ok rfl rfl ?_
              refine Ga.at ok rfl rfl ?_
              refine Ga.at ok rfl rfl ?_
              refine ⟨fun q => (by have q : mbr c [39, 34] = true := q; have := mbr_iff.mp q; simp at this; lia), fun _ => ?_⟩
              refine Ga.at ok rfl rfl ?_
              refine Ga.at ok rfl rfl ?_
              refine ⟨fun q => absurd (List.mem_singleton.mp (mbr_iff.mp q)) q1, fun _ => ?_⟩
              have fin : ∀ (st2 : St), (∃ b1 b2 b3 loc ll, st2 = rtSt x dx dx' ⟨px, com, true, a1, a2⟩ (("escapedstate", .str false e) :: loc) (.str b1 [97]) ll (.str b3 (t ++ [c])) y b2 ∧ b2 = dd.length + 1) →
                  ∃ m st3, m < n ∧ Le (cX prog w A g L name (fScope (stIn 34 6)) fa cd [] [] os ban outs oenv) st2 st3 ∧ rtI com res y x dx dx' px a1 a2 m st3 := by
                rintro _ ⟨b1, b2, b3, loc, ll, rfl, rfl⟩
                exact ⟨rr.length, _, hn', rtLe (dr _ _ _ .rfl) (SVle.str rfl) (SVle.int rfl) (SVle.str rfl) (by simp), _, _, _, _, dd ++ [c], rr, .wd (t := t ++ [c]) (by replace h := (nextW_wch q1 hw) ▸ h; exact h) (by simp) k', by simpa [TokLe] using htl, hyy', rfl, rfl⟩
              refine Ga.at ok rfl rfl ?_
              refine ⟨fun _ => ?_, fun _ => ?_⟩
              · refine Ga.at ok rfl rfl ?_
                refine ⟨hz', ?_⟩
                refine Sa.at ok rfl rfl ?_
                exact fin _ ⟨_, _, _, _, _, rfl, rfl⟩
              · refine Ga.at ok rfl rfl ?_
                refine ⟨fun q => (by have q : mbr c [39, 34] = true := q; have := mbr_iff.mp q; simp at this; lia), fun _ => ?_⟩
                refine Ga.at ok rfl rfl ?_
                refine punct G1 rfl ?_
                refine ⟨fun _ => ?_, fun q => (by exact tfE q)⟩
                refine Ga.at ok rfl rfl ?_
                refine ⟨hz', ?_⟩
                refine Sa.at ok rfl rfl ?_
                exact fin _ ⟨_, _, _, _, _, rfl, rfl⟩
    | es h k =>
      rename_i t c rr
      have hz' : t.length + 1 ≤ szB := by
        have : t.length ≤ dd.length := htl
        have : dd.length ≤ y.length := by refine rg hyy ?_; simp
        unfold szB; lia
      have hn' : rr.length < n := by refine rg hn ?_; simp
      have hyy' : y = (dd ++ [c]) ++ rr := by refine rg hyy ?_; simp
      refine And.elim (fun p q => ⟨p, q⟩) ?_
      revert l
      refine bothV ?l6 (fun key l _ => ?l5)
      case l5 =>
        refine Ga.at ok rfl rfl ?_
        refine Sa.at ok rfl rfl ?_
        exact key _
      case l6 =>
        intro l
        refine Ga.at ok rfl rfl ?_
        refine Ga.at ok rfl rfl ?_
        refine Ga.at ok rfl rfl ?_
        refine Ga.at ok rfl rfl ?_
        refine Ga.at ok rfl rfl ?_
        refine Ga.at ok rfl rfl ?_
        refine Ga.at ok rfl rfl ?_
        refine ⟨Nat.le_of_ble_eq_true rfl, fun _ => ?_, fun q => (by exact tfE q)⟩
        refine Ga.at ok rfl rfl ?_
        refine Ga.at ok rfl rfl ?_
        refine ⟨hz', ?_⟩
        refine Sa.at ok rfl rfl ?_
        refine Sa.at ok rfl rfl ?_
        exact ⟨rr.length, _, hn', rtLe (dr _ _ _ (SVle.str rfl)) (SVle.str rfl) (SVle.int rfl) (SVle.str rfl) (by simp), _, _, _, _, dd ++ [c], rr, .wd (e := [97]) (t := t ++ [c]) h (by simp) k, by simpa [TokLe] using htl, hyy', rfl, rfl⟩
  · rintro st ⟨s, l, t, d', hend, rfl⟩
    refine blkR_ok (ev_ok ok 30) _ _ _ ?_
    have hend' := hend
    rcases hend with ⟨_, rfl, rfl, _⟩ | ⟨u, hu, _, rfl, rfl, _⟩ | ⟨u, r', d', hu, _, rfl, rfl, _, _⟩
    · refine Ga.at ok rfl rfl ?_
      refine Sa.at ok rfl rfl ?_
      refine Ga.at ok rfl rfl ?_
      refine Ga.at ok rfl rfl ?_
      exact hQ _ _ _ _ _ hend' (List.Sublist.refl _)
    · refine Ga.at ok rfl rfl ?_
      refine Sa.at ok rfl rfl ?_
      refine Ga.at ok rfl rfl ?_
      refine ⟨fun q => ?_, fun _ => ?_⟩
      · exfalso; induction u with
        | nil => exact hu rfl
        | cons => exact ftE q
      refine Ga.at ok rfl rfl ?_
      exact hQ _ _ _ _ _ hend' (List.Sublist.refl _)
    · refine Ga.at ok rfl rfl ?_
      refine Sa.at ok rfl rfl ?_
      refine Ga.at ok rfl rfl ?_
      refine ⟨fun q => ?_, fun _ => ?_⟩
      · exfalso; induction u with
        | nil => exact hu rfl
        | cons => exact ftE q
      refine Ga.at ok rfl rfl ?_
      exact hQ _ _ _ _ _ hend' (List.Sublist.refl _)
end
end Mine
end

section
open PySem PySem.W PySem.Calls PyProof.Rows
noncomputable section
set_option Elab.async false
set_option maxRecDepth 100000
set_option autoImplicit false
set_option linter.unusedVariables false
set_option maxHeartbeats 800000
namespace Mine
noncomputable abbrev lexM (x dx dx' : Addr) (p : ShP) (s : SV) (ln : Int) (y : S) (d : Nat) : List Cell := [⟨0, dx, .attrs x 782 (shA p s (.int false ln) (.str true []))⟩, ⟨1, dx', .attrs p.x' 647 (sioA y d)⟩]
noncomputable def ov : Option S → SV
  | none => .none
  | some u => .str false u
/-- where the reader stands behind a word -/
noncomputable def REnd (y : S) (res : Option S × Bool × S) (o : Option S) (s : SV) (d : Nat) : Prop :=
  (res = (none, true, []) ∧ o = none ∧ s = .none ∧ d = y.length) ∨ (∃ u, u ≠ [] ∧ res = (some u, true, []) ∧ o = some u ∧ s = .none ∧ d = y.length) ∨
  (∃ u r' d', u ≠ [] ∧ res = (some u, false, r') ∧ o = some u ∧ s = .str true [32] ∧ y = d' ++ r' ∧ d = d'.length)
theorem RtEnd.to {y : S} {res : Option S × Bool × S} {s t : SV} {d : Nat} (h : RtEnd y res s t d) : ∃ o, REnd y res o s d ∧ rvT t = ov o := by
  rcases h with ⟨h1, rfl, rfl, h4⟩ | ⟨u, hu, h1, rfl, rfl, h4⟩ | ⟨u, r', d', hu, h1, rfl, rfl, h4, h5⟩
  · exact ⟨none, .inl ⟨h1, rfl, rfl, h4⟩, rfl⟩
  · exact ⟨some u, .inr (.inl ⟨u, hu, h1, rfl, rfl, h4⟩), rfl⟩
  · exact ⟨some u, .inr (.inr ⟨u, r', d', hu, h1, rfl, rfl, h4, h5⟩), rfl⟩
/-- a function of the reader, by its address -/
noncomputable def Reads (f : Addr) (n : Nat) (p : ShP) (y : S) (s : SV) (ln : Int) (d : Nat) (End : Option S → SV → Nat → Prop) : Prop :=
  ∀ (C : Cx), Good C n → ∀ (x dx dx' : Addr) (loc : List (Str × SV)) (Q : SV → St → Prop), (∀ o s' d' ln', End o s' d' → Q (ov o) ⟨loc, lexM x dx dx' p s' ln' y d', 2⟩) → Cl C (.con (.ref f)) [.ref 0 x] [] ⟨loc, lexM x dx dx' p s ln y d, 2⟩ Q
theorem reads_of {f : Addr} {n i : Nat} {qual nm : Str} {cdv pm : Value} {oc : Value} {osl : Array (Option Value)} {p : ShP} {y : S} {s : SV} {ln : Int} {d : Nat} {End : Option S → SV → Nat → Prop}
    (hf : ∀ P, (KP P).lookup f = some ⟨oc, none, .func (fnOf nm qual (fPars (stIn 34 i)) (fBody (stIn 34 i)) (fScope (stIn 34 i)) .none .none .none pm none cdv .none), osl⟩) (hc : ∀ P, codeIn (KP P) cdv qual = true)
    (hb : ∀ w : Value, bindArgs (fnOf nm qual (fPars (stIn 34 i)) (fBody (stIn 34 i)) (fScope (stIn 34 i)) .none .none .none pm none cdv .none) ⟨[w], []⟩ = (pure [(("self" : Str), w)] : Sem (List (Str × Value))))
    (hl : (fScope (stIn 34 i)).names.lookup ("self" : Str) = some .local) (hcell : ∀ x ∈ (fScope (stIn 34 i)).names, x.2 ≠ .cell) (h1 : (fScope (stIn 34 i)).isCoroutine = false) (h2 : (fScope (stIn 34 i)).isGenerator = false) (h3 : (fScope (stIn 34 i)).kind = .function)
    (hbody : ∀ prog w A g L name fa cd os ban outs oenv x dx dx' (Q : SF → St → Prop), A.depth + n < 901 → (cX prog w A g L name (fScope (stIn 34 i)) fa cd [] [] os ban outs oenv).Ok →
      (∀ f o s' d' ln' st, End o s' d' → (∀ R v, VR R (retV f) v → VR R (ov o) v) → List.Sublist (lexM x dx dx' p s' ln' y d') st.mem → Q f st) →
      Es (cX prog w A g L name (fScope (stIn 34 i)) fa cd [] [] os ban outs oenv) (execs (fBody (stIn 34 i)) (Cx.env (cX prog w A g L name (fScope (stIn 34 i)) fa cd [] [] os ban outs oenv))) ⟨[("self", .ref 0 x)], lexM x dx dx' p s ln y d, 2⟩ Q) (hn : 1 ≤ n) :
    Reads f n p y s ln d End := by
  intro C G x dx dx' loc Q h
  refine G.elim (P := fun C => Cl C (.con (.ref f)) [.ref 0 x] [] ⟨loc, lexM x dx dx' p s ln y d, 2⟩ Q) fun prog w A g L name scope fa cd cells cvs os ban outs oenv ok hroom => ?_
  refine Cu.cl (Cu.user ok rfl .rfl (loc := [("self", .ref 0 x)]) (fk := [0, 1]) (ft := lexM x dx dx' p s ln y d) (hf w.params) (hc w.params) (show A.depth + 1 < 900 by first | exact dp hroom rfl | exact dp hA rfl | lia) (by decide) rfl ?_ ?_ (by decide +kernel : List.Nodup (["self"] : List Str)) hcell ?_ h1 h2 h3)
  · intro R s ws ks r hw hk
    obtain ⟨v, t, rfl, h1, h3⟩ := hw.uncons
    have := h3.unnil; subst this
    have := hk.unnil; subst this
    exact ⟨[v], .cons h1 .nil, BindsTo.of_eq (hb v)⟩
  · simp [hl]
  · intro A' g L ban outs ok' hA'
    have hA' : A'.depth = A.depth + 1 := hA'
    refine hbody _ _ _ _ _ _ _ _ _ _ _ _ x dx dx' _ (by lia) ok' fun f o s' d' ln' st2 he hv hs => ?_
    exact ⟨[], lexM x dx dx' p s' ln' y d', ov o, hs, rfl, hv, h o s' d' ln' he⟩
theorem rt_word {px a1 a2 : Addr} {com : S} {y d r : S} {ln : Int} {res : Option S × Bool × S} (hy : y = d ++ r) (hz : y.length ≤ 100000) (hres : nextW none r = res) (hok : okT com r) (h92 : mbr 92 com = false) :
    Reads 750 4 ⟨px, com, true, a1, a2⟩ y (.str true [32]) ln d.length (REnd y res) := by
  refine reads_of (i := 6) (fun P => rfl) (fun P => rfl) (fun w => rfl) rfl (by decide +kernel) rfl rfl rfl ?_ (by decide)
  intro prog w A g L name fa cd os ban outs oenv x dx dx' Q hA ok hQ
  refine rt_body rfl hy hz hres hok h92 (fun s t dd ln' st he hs => ?_) (by lia) ok
  obtain ⟨o, h1, h2⟩ := he.to
  exact hQ _ o s dd ln' st h1 (fun R v q => by refine rl h2 ?_; exact q) hs
theorem rt_none {px a1 a2 : Addr} {com : S} {y : S} {ln : Int} (hz : y.length ≤ 100000) :
    Reads 750 4 ⟨px, com, true, a1, a2⟩ y .none ln y.length (REnd y (none, true, [])) := by
  refine reads_of (i := 6) (fun P => rfl) (fun P => rfl) (fun w => rfl) rfl (by decide +kernel) rfl rfl rfl ?_ (by decide)
  intro prog w A g L name fa cd os ban outs oenv x dx dx' Q hA ok hQ
  have G1 := good ok (n := 1) (by first | exact dp hA rfl | lia)
  have G2 := good ok (n := 2) (by first | exact dp hA rfl | lia)
  refine Es.cut ok 30 3 (fun st => st = ⟨[("self", .ref 0 x), ("quoted", .bool true false)], lexM x dx dx' ⟨px, com, true, a1, a2⟩ .none ln y y.length, 2⟩) ?_ ?_
  · refine ⟨fun n st => st = ⟨[("self", .ref 0 x), ("quoted", .bool true false)], lexM x dx dx' ⟨px, com, true, a1, a2⟩ .none ln y y.length, 2⟩, ⟨0, _, Le.mk (.cons .rfl (.cons .rfl .drop)) .rfl, rfl⟩, ?_⟩
    rintro n st rfl
    refine punct G1 rfl ?_
    refine Ga.at ok rfl rfl ?_
    refine Me.inst ok ⟨rfl, ⟨rfl, rfl, rfl, rfl⟩, ?_⟩
    refine ⟨rfl, read_cl (d := y) (r := []) G2 rfl (List.append_nil y).symm hz ?_⟩
    refine ⟨fun q => (by exact ftE q), fun _ => ?_⟩
    refine Ga.at ok rfl rfl ?_
    refine Ga.at ok rfl rfl ?_
    refine Sa.at ok rfl rfl ?_
    exact ⟨_, Le.mk (.cons .rfl (.cons .rfl .drop)) .rfl, rfl⟩
  rintro st rfl
  refine blkR_ok (ev_ok ok 30) _ _ _ ?_
  refine Ga.at ok rfl rfl ?_
  refine Sa.at ok rfl rfl ?_
  refine Ga.at ok rfl rfl ?_
  refine Ga.at ok rfl rfl ?_
  exact hQ _ none .none y.length ln _ (.inl ⟨rfl, rfl, rfl, rfl⟩) (fun _ _ h => h) (List.Sublist.refl _)
/-- get_token gives what read_token gave -/
theorem get_reads {p : ShP} {y : S} {s : SV} {ln : Int} {d : Nat} {End : Option S → SV → Nat → Prop} (h : Reads 750 4 p y s ln d End) : Reads 743 5 p y s ln d End := by
  refine reads_of (i := 5) (fun P => rfl) (fun P => rfl) (fun w => rfl) rfl (by decide +kernel) rfl rfl rfl ?_ (by decide)
  intro prog w A g L name fa cd os ban outs oenv x dx dx' Q hA ok hQ
  refine blkR_ok (ev_ok ok 30) _ _ _ ?_
  refine Ga.at ok rfl rfl ?_
  refine T1.dq ?_
  refine Me.inst ok ⟨rfl, ⟨rfl, rfl, rfl, rfl⟩, ?_⟩
  refine ⟨rfl, h _ (good ok (by first | exact dp hA rfl | lia)) x dx dx' _ _ fun o s' d' ln' he => ?_⟩
  induction o with
  | none =>
    refine Ga.at ok rfl rfl ?_
    refine ⟨fun n st => st = _, ⟨0, _, .rfl, rfl⟩, ?_⟩
    rintro n st rfl
    refine Ga.at ok rfl rfl ?_
    refine Ga.at ok rfl rfl ?_
    refine T1.dq ?_
    refine Ga.at ok rfl rfl ?_
    exact hQ _ none s' d' ln' _ he (fun _ _ h => h) (List.Sublist.refl _)
  | some u =>
    refine Ga.at ok rfl rfl ?_
    refine ⟨fun n st => st = _, ⟨0, _, .rfl, rfl⟩, ?_⟩
    rintro n st rfl
    refine Ga.at ok rfl rfl ?_
    refine Ga.at ok rfl rfl ?_
    exact hQ _ (some u) s' d' ln' _ he (fun _ _ h => h) (List.Sublist.refl _)
end Mine
end
end

section
open PySem PySem.W PySem.Calls PyProof.Rows
noncomputable section
open Sem (wp)
set_option Elab.async false
set_option maxRecDepth 100000
set_option autoImplicit false
set_option linter.unusedVariables false
namespace Mine
/-! the end of an iterator -/
section
variable {C : Cx} {R : Frz} {st : St} {s : Shared}
theorem Rel.left {h'' : Heap} (ok : C.Ok) (r : Rel C R st s) (hk : ∀ b o, b ∉ C.L :: C.outs.map (·.1) → s.heap.get? b = some o → h''.get? b = some o)
    (hsl : ∀ b o, b ∈ C.L :: C.outs.map (·.1) → s.heap.get? b = some o → ∃ sl, h''.get? b = some { o with slots := sl }) : Rel C R st { s with heap := h'' } := by
  obtain ⟨m, F, hl⟩ := r.fr
  obtain ⟨oL, es, ep, e1, e2⟩ := F.ns
  obtain ⟨slL, eL⟩ := hsl C.L oL (.head _) e1
  refine ⟨⟨m, ⟨⟨_, es, ep, eL, e2⟩, fun b o e => hk b o (r.baseIn ok e) (F.keep b o e), F.above⟩, hl⟩, fun c hc => ?_, fun a o h => ?_, r.ban, r.nd, r.cvs, r.gens, r.os, fun p hp => ?_⟩
  · obtain ⟨o, a, b, d⟩ := r.mem c hc
    exact ⟨o, a, hk _ _ (r.notOut hc) b, d⟩
  · obtain ⟨a1, b1⟩ := r.frz a o h
    refine ⟨hk _ _ (fun q => ?_) a1, b1⟩
    rcases List.mem_cons.mp q with q | q
    · exact b1.1 q
    · obtain ⟨p, hp, e⟩ := List.mem_map.mp q
      exact r.ban a o h (e ▸ (ok.ohide p hp).2.1)
  · obtain ⟨a1, b1, sl, e⟩ := r.outs p hp
    obtain ⟨sl', e'⟩ := hsl p.1 _ (.tail _ (List.mem_map_of_mem hp)) e
    exact ⟨a1, b1, sl', e'⟩
theorem funFrames {h base : Heap} : ∀ (l : List Env) (as : List Addr), l.map (·.frame) = as.map some → (∀ e ∈ l, e.scope.kind ≠ .module) → (∀ a ∈ as, base.get? a = none ∧ ∃ o, h.get? a = some o ∧ ∀ vs, o.data ≠ .fields vs) → h.FunFrames base l
  | [], _, _, _, _ => trivial
  | e :: l, [], h1, _, _ => by simp at h1
  | e :: l, a :: as, h1, h2, h3 => by
    simp only [List.map_cons, List.cons.injEq] at h1
    obtain ⟨x1, o, x2, x3⟩ := h3 a (.head _)
    exact ⟨h2 e (.head _), ⟨a, o, h1.1, x1, x2, x3⟩, funFrames l as h1.2 (fun e he => h2 e (.tail _ he)) fun a ha => h3 a (.tail _ ha)⟩
theorem leave_ok (ok : C.Ok) (r : Rel C R st s) {h' : Heap} {e : Addr} {cls : String} {as : List Value} (hx : Heap.MadeExc s.heap h' e cls as) {Q : Unit → Shared → Prop} {E : Value → Shared → Prop}
    (hq : ∀ h'', Rel C R st { s with heap := h'' } → (∃ o, h''.get? e = some o ∧ o.cls = .type cls) → Q () { s with heap := h'' }) : wpAny C.M C.A (leaving C.env (.ref e)) Q E { s with heap := h' } := by
  obtain ⟨t, ht, _⟩ := hx.there
  have hen : (hideAll s.heap (C.L :: C.outs.map (·.1))).get? e = none := by
    cases q : (hideAll s.heap (C.L :: C.outs.map (·.1))).get? e with
    | none => rfl
    | some o => have := of_hideAll _ q; replace this := hx.new ▸ this; exact nsE this
  have nofld : ∀ a ∈ C.L :: C.outs.map (·.1), ∃ o, s.heap.get? a = some o ∧ ∀ vs, o.data ≠ .fields vs := fun a ha => by
    rcases List.mem_cons.mp ha with rfl | ha
    · obtain ⟨m, F, _⟩ := r.fr
      obtain ⟨oL, es, ep, e1, e2, _⟩ := F.ns
      exact ⟨oL, e1, fun vs q => by replace q := e2 ▸ q; cases q⟩
    · obtain ⟨p, hp, rfl⟩ := List.mem_map.mp ha
      obtain ⟨_, _, sl, e⟩ := r.outs p hp
      exact ⟨_, e, (ok.ohide p hp).2.2⟩
  refine wpAny_leaving_first (base := hideAll s.heap (C.L :: C.outs.map (·.1))) (L := C.L) ok.frames ?_ rfl ht (fun b o q => hx.keeps b o (of_hideAll _ q)) hen rfl rfl fun h'' hL => ?_
  · refine funFrames _ (C.L :: C.outs.map (·.1)) ?_ (fun x hx => ?_) fun a ha => ?_
    · refine rg List.map_cons (rg List.map_cons (rg ok.onames (rg List.map_map ?_))); rfl
    · rcases List.mem_cons.mp hx with rfl | hx
      · refine (?_ : C.scope.kind ≠ _)
        refine rg ok.hk ?_; decide
      · exact ok.okind x hx
    · obtain ⟨o, h1, h2⟩ := nofld a ha
      exact ⟨hideAll_none _ ha, o, hx.keeps _ _ h1, h2⟩
  · obtain ⟨k1, _, ⟨oe, _, _, _, _, q1, q2, _⟩, k4⟩ := hL
    refine hq h'' (r.left ok (fun b o nb e => k1 b o (hideAll_get _ e nb)) fun b o hb e => ?_) ⟨oe, q1, q2⟩
    obtain ⟨o', h1, h2⟩ := nofld b hb
    replace h1 := e ▸ h1; (first | obtain ⟨_, rfl⟩ := VR.str' h1 | obtain ⟨_, rfl⟩ := VR.int' h1 | obtain rfl := VR.ref' h1 | obtain rfl := VR.con' h1 | obtain ⟨_, rfl, _⟩ := VR.bm' h1 | obtain ⟨rfl, _⟩ := VR.fz' h1 | obtain rfl := VR.bool' h1 | obtain rfl := VR.none' h1 | obtain rfl := Option.some.inj h1)
    exact k4 b o (hx.keeps _ _ e) h2
/-- the statement «raise StopIteration» -/
theorem raise_stop (ok : C.Ok) (r : Rel C R st s) {np pos : Pos} {E : Value → Shared → Prop} {Q : Flow → Shared → Prop} (hn : lk C.scope.names "StopIteration" = some .globalImplicit) (hg : lk C.glb "StopIteration" = some (.type "StopIteration"))
    (h : ∀ h' e, Heap.MadeExc s.heap h' e "StopIteration" [] → E (.ref e) { s with heap := h' }) : wpAny C.M C.A (exec (.Raise (some (.Name "StopIteration" np)) none pos) C.env) Q E s := by
  obtain ⟨m, F, hl⟩ := r.fr
  obtain ⟨p, loose, mg, mb, T⟩ := ok.top
  have hk : C.env.kindOf "StopIteration" = some .globalImplicit := (lk_lookup _ _).trans hn
  refine owsi_raiseC ok.hh ?_ h
  rcases ok.glb _ _ hg with q | ⟨q1, q2, q3⟩
  · exact nameX_K F ok.X T q ⟨rfl, rfl⟩ ok.hk hk (by decide)
  · exact nameX_B F ok.X T q1 q2 q3 ⟨rfl, rfl⟩ ok.hk hk (by decide)
end
noncomputable def Stopped (C : Cx) (R : Frz) (X : St → Prop) (e : Value) (s' : Shared) : Prop := ∃ e0, e = .ref e0 ∧ (∃ o, s'.heap.get? e0 = some o ∧ o.cls = .type "StopIteration") ∧ ∃ R', Grows R R' ∧ ∃ st', Rel C R' st' s' ∧ X st'
/-- the call ends by StopIteration -/
noncomputable def Cs (C : Cx) (A : Around) (f : SV) (args : List SV) (st : St) (X : St → Prop) : Prop :=
  ∀ R s v ws, Rel C R st s → VR R f v → VRs R args ws → codeAny C.M A (.call v ⟨ws, []⟩) (fun r s' => match r with | .error e => Stopped C R X e s' | _ => False) s
/-- the body ends by StopIteration -/
noncomputable def Eb (C : Cx) (body : List Stmt) (st : St) (X : St → Prop) : Prop :=
  ∀ R s, Rel C R st s → wpAny C.M C.A (execs body C.env) (fun _ _ => False) (fun e s' => ∃ e0 s0 h' R' st2, e = .ref e0 ∧ s' = { s0 with heap := h' } ∧ Heap.MadeExc s0.heap h' e0 "StopIteration" [] ∧ Grows R R' ∧ Rel C R' st2 s0 ∧ X st2) s
theorem Eb.cut {C : Cx} (ok : C.Ok) {st : St} {l : List Stmt} {X : St → Prop} (k n : Nat) (P : St → Prop) (h1 : blkR (ev C k) (l.take n) st (cutQ C P fun _ _ => False)) (h2 : ∀ st', P st' → Eb C (l.drop n) st' X) : Eb C l st X := by
  intro R s r Γ p hΓ
  have h := blkR_ok (ev_ok ok k) _ _ _ h1 R s r Γ p hΓ
  refine rl (List.take_append_drop n l) ?_
  refine wp_execs_append _ _ _ (Sem.wp_mono _ Γ _ (fun f p' s' h' => ?_) (fun _ _ _ h' => h'.elim) _ _ h)
  obtain ⟨R1, g1, sf, st1, r1, hf, q⟩ := h'
  induction hf with
  | next =>
    obtain ⟨st', le, hp⟩ := q
    exact Sem.wp_mono _ Γ _ (fun f p2 s2 z => z) (fun _ _ _ ⟨e0, s0, h', R', st2, a, b, c, g, d⟩ => ⟨e0, s0, h', R', st2, a, b, c, g1.trans g, d⟩) _ _ (h2 st' hp R1 s' (le R1 s' r1) Γ p' hΓ)
  | brk => exact q.elim
  | cont => exact q.elim
  | ret hv => exact q.elim
theorem Eb.ite {C : Cx} {st : St} {t : Expr} {np pos pos2 : Pos} {o rest : List Stmt} {X : St → Prop} (ok : C.Ok) (hn : lk C.scope.names "StopIteration" = some .globalImplicit) (hg : lk C.glb "StopIteration" = some (.type "StopIteration"))
    (h : Et C (isTrue t C.env (eval t C.env)) st fun b st1 => b = true ∧ X st1) : Eb C (.If t [.Raise (some (.Name "StopIteration" np)) none pos] o pos2 :: rest) st X := by
  intro R s r
  refine wpAny_execs_cons (wpAny_If (wpAny_mono (h R s r) ?_ fun _ _ e => e.elim))
  rintro b s1 ⟨R1, g1, st1, r1, rfl, hx⟩
  refine (?_ : wpAny _ _ (execs _ _) _ _ _)
  refine wpAny_execs_cons (raise_stop ok r1 hn hg fun h' e hm => ?_)
  exact ⟨e, s1, h', R1, st1, rfl, rfl, hm, g1, r1, hx⟩
theorem Cs.user {C : Cx} (ok : C.Ok) {A0 : Around} (hAh : SameA A0 C.A) {st : St} {X : St → Prop} {a : Addr} {args : List SV} {fk : List Nat} {ft : List Cell} {loc : List (Str × SV)}
    {oc : Value} {od : Option Addr} {osl : Array (Option Value)} {name qual : Str} {params : Arguments} {body : List Stmt} {scope : Scope} {dV kV doc pm cdv ct : Value} {an : Option Addr}
    (ho : C.K.lookup a = some ⟨oc, od, .func (fnOf name qual params body scope dV kV doc pm an cdv ct), osl⟩) (hcd : codeIn C.K cdv qual = true) (hroom : A0.depth + 1 < 900)
    (hfk : fk.Nodup) (hft : fts st.mem fk = some ft) (hbind : Binds C st (fnOf name qual params body scope dV kV doc pm an cdv ct) args [] loc)
    (hloc : (loc.all fun x => decide (scope.names.lookup x.1 = some .local)) = true) (hnd : (loc.map (·.1)).Nodup) (hcell : ∀ x ∈ scope.names, x.2 ≠ .cell)
    (hbody : ∀ A g L ban outs, (callee C A g L qual scope a cdv [] [] ban outs).Ok → A.depth = A0.depth + 1 →
      Eb (callee C A g L qual scope a cdv [] [] ban outs) body ⟨loc, rk 0 ft, ft.length⟩ fun st2 => ∃ ft2 : List Cell, ft2.Sublist st2.mem ∧ ft2.map (·.a) = ft.map (·.a) ∧ X ⟨st.loc, msets st.mem fk (ft2.map (·.o)), st.nk⟩)
    (hco : scope.isCoroutine = false := by rfl) (hgen : scope.isGenerator = false := by rfl) (hk : scope.kind = .function := by rfl) : Cs C A0 (.con (.ref a)) args st X := by
  intro R s v ws r hf hw
  (first | obtain ⟨_, rfl⟩ := VR.str' hf | obtain ⟨_, rfl⟩ := VR.int' hf | obtain rfl := VR.ref' hf | obtain rfl := VR.con' hf | obtain ⟨_, rfl, _⟩ := VR.bm' hf | obtain ⟨rfl, _⟩ := VR.fz' hf | obtain rfl := VR.bool' hf | obtain rfl := VR.none' hf | cases hf)
  obtain ⟨m, F, hl⟩ := r.fr
  have XX := ok.X.keeps F.keep
  refine codeAny_call_function (fd := fnOf name qual params body scope dV kV doc pm an cdv ct) (body := body) (by have : recursionLimit = 1000 := rfl; lia) (XX _ _ ho) rfl hco hgen rfl (codeRec_of XX hcd) ?_
  refine hbind R s ws [] r hw .nil _ _ _ fun R1 s1 vals g1 r1 hv => ?_
  obtain ⟨m1, F1, _⟩ := r1.fr
  refine wpAny_newFunctionEnv hcell (fun y hy => ?_) (fun h₁ hns hsb => ?_) hk
  · have h1 := (List.of_mem_zip (a := y.1) (b := y.2) hy).1
    obtain ⟨z, hz, e⟩ := List.mem_map.mp h1
    refine rl e ?_
    exact of_decide_eq_true (List.all_eq_true.mp hloc z hz)
  have hk₁ : ∀ b o, s1.heap.get? b = some o → h₁.get? b = some o := fun b o e => hsb.extBut b o (Nat.ne_of_lt (Heap.lt_size e)) (Heap.get?_push_of_some _ e)
  obtain ⟨ok', r'⟩ := enter (A := A0.deeper (envX qual scope s1.heap.objs.size a cdv [])) (name := qual) (scope := scope) (fa := a) (cd := cdv) (n := ft.length) (tk := s1.toks + ((loc.map (·.1)).zip vals).length) ok r1 hfk hft (by refine (?_ : A0.depth + 1 < 900); exact hroom) hAh.hh (by refine (?_ : A0.frames.map _ = _); exact rg hAh.fr rfl) hk hns hk₁ hv hnd
  refine ⟨(ok.lim.keeps F1.keep).fresh _ hsb, codeAny_func ?_⟩
  refine wpAny_mono (hbody _ _ _ _ _ ok' rfl R1 _ r') (fun _ _ z => z.elim) ?_
  rintro e s2 ⟨e0, s0, h', R2, st2, rfl, rfl, hm, g2, r2, ft2, q1, q2, q3⟩
  refine leave_ok ok' r2 hm fun h'' r3 hc => ?_
  refine (?_ : Stopped C R X _ _)
  refine ⟨e0, rfl, hc, R2, g1.trans g2, _, back (nw := []) ok r1 g2 r3 rfl rfl hfk hft rfl (fun b hb => ?_) q1 q2, q3⟩
  rcases hb with rfl | hb | ⟨h1, h2⟩
  · exact .head _
  · exact .tail _ (List.mem_append_left _ hb)
  · refine .tail _ (List.mem_append_right _ (List.mem_filter.mpr ⟨h1, ?_⟩))
    simpa using h2
end Mine
end
end

section
open PySem PySem.W PySem.Calls PyProof.Rows
noncomputable section
open Sem (wp)
set_option Elab.async false
set_option maxRecDepth 100000
set_option autoImplicit false
set_option genSizeOf false
set_option genInjectivity false
set_option linter.unusedVariables false
namespace Mine
/-! list(x) of an iterator of one's own -/
structure OwnIt (K : Frag) (Cc fi fn : Addr) : Prop where
  iter : findIn K (.ref Cc) "__iter__" = some (some (.ref fi))
  isI : isFn K (.ref fi) = true
  next : findIn K (.ref Cc) "__next__" = some (some (.ref fn))
  isN : isFn K (.ref fn) = true
  len : findIn K (.ref Cc) "__len__" = some none
  hint : findIn K (.ref Cc) "__length_hint__" = some none
noncomputable abbrev lst (loc : List (Str × SV)) (n : Nat) (S : Addr) (acc : List SV) (mem : List Cell) : St := ⟨loc, ⟨n, S, .list acc⟩ :: mem, n + 1⟩
section
variable {C : Cx} {R : Frz} {s : Shared} {loc : List (Str × SV)} {n : Nat} {S : Addr} {acc acc' : List SV} {mem : List Cell}
theorem lst_mlk : mlk (lst loc n S acc mem).mem n = some ⟨n, S, .list acc⟩ := by
  refine (?_ : mlk (_ :: _) _ = _)
  exact rg (mlk_cons ..) (rg (Nat.beq_refl ..) rfl)
theorem lst_mset {o : SO} : mset (lst loc n S acc mem).mem n o = ⟨n, S, o⟩ :: mem := by
  refine (?_ : mset (_ :: _) _ _ = _)
  exact rg (mset_cons ..) (rg (Nat.beq_refl ..) rfl)
theorem lst_with {P : List SV → Prop} (h : P acc) : withList (lst loc n S acc mem) n S P := by
  unfold withList
  refine rg lst_mlk ?_
  exact ⟨rfl, h⟩
theorem upd_list {A : Around} {f : Array Value → Array Value} {Q : Unit → Shared → Prop} {E : Value → Shared → Prop} (r : Rel C R (lst loc n S acc mem) s) (h1 : acc.length ≤ szB) (h2 : acc'.length ≤ szB + 1)
    (hf : ∀ vs, VRs R acc vs → ∃ vs', f vs.toArray = vs'.toArray ∧ VRs R acc' vs') (hq : ∀ h', Rel C R (lst loc n S acc' mem) { s with heap := h' } → Q () { s with heap := h' }) : wpAny C.M A (updateSeq S f) Q E s := by
  obtain ⟨xs, vs, c, e1, e2, e3, rfl⟩ := r.list (lst_with (P := (· = acc)) rfl)
  obtain ⟨vs', q1, q2⟩ := hf vs e2
  have z1 := e2.len
  have z2 := q2.len
  refine wpAny_updateSeq e3 rfl ?_ (by simp only [List.size_toArray]; exact z1 ▸ Nat.le_trans h1 szB_line) (by refine rg q1 ?_; simp only [List.size_toArray]; exact z2 ▸ Nat.le_trans h2 (Nat.succ_le_succ szB_line))
  refine hq _ ?_
  have hm : Obj.mapSeq f (listO vs c) = listO vs' (if (f vs.toArray).size == vs.toArray.size then c else c + 1) := by
    refine (?_ : (⟨_, _, _, _⟩ : Obj) = _)
    exact rg q1 rfl
  have := r.put (s' := { s with heap := s.heap.update S (Obj.mapSeq f) }) (so := .list acc') lst_mlk (Heap.SameBut.update ..) (Heap.get?_update_self _ e3 (by refine rg hm ?_; rfl)) (by refine rg hm ?_; exact .list q2) rfl rfl
  rwa [lst_mset] at this
theorem extend_own (ok : C.Ok) {Cc fi fn : Addr} (W : OwnIt C.K Cc fi fn) {A : Around} (hA : SameA A C.A) (hAd : A.depth = C.A.depth) {k : Nat} {x : Addr} {I : List (List Nat) → List Cell → Prop} {X : List Cell → Prop}
    (hinst : ∀ us acc mem, I us mem → withInst (lst loc n S acc mem) k x fun Cl as => Cl = Cc)
    (hnext : ∀ u us acc mem A1, SameA A1 C.A → A1.depth = C.A.depth → I (u :: us) mem → Cu C A1 (.con (.ref fn)) [.ref k x] [] (lst loc n S acc mem) fun v st' => v = .str false u ∧ ∃ mem', st' = lst loc n S acc mem' ∧ I us mem')
    (hstop : ∀ acc mem A1, SameA A1 C.A → A1.depth = C.A.depth → I [] mem → Cs C A1 (.con (.ref fn)) [.ref k x] (lst loc n S acc mem) fun st' => ∃ mem', st' = lst loc n S acc mem' ∧ X mem') :
    ∀ (us : List (List Nat)) (R : Frz) (s : Shared) (acc : List SV) (mem : List Cell), Rel C R (lst loc n S acc mem) s → I us mem → acc.length + us.length ≤ szB →
      codeAny C.M A (.builtin "list.extend.loop" ⟨[.ref S, .ref x, .none], []⟩) (fun r s' => match r with
        | .ok (.ret v) => v = .none ∧ ∃ R', Grows R R' ∧ ∃ mem', Rel C R' (lst loc n S (acc ++ us.map (.str false)) mem') s' ∧ X mem'
        | _ => False) s
  | us, R, s, acc, mem, r, hi, hz => by
    obtain ⟨m, FF, hl⟩ := r.fr
    obtain ⟨Cl, as, dx, sl, es, cc, e1, e2, e3, e4, e5, rfl⟩ := r.inst (hinst us acc mem hi)
    refine codeAny_builtin F.entry_extend_loop ?_
    refine rg (Around.under_plainId F.plain_extend_loop _) ?_
    refine (?_ : wpAny _ A.in1 (pyNext (.ref x) >>= _) _ _ s)
    have II : InstAt s.heap x ⟨.ref Cl, some dx, .plain, sl⟩ Cl (some (dictOf es cc)) := ⟨(r.frz _ _ e2).1, rfl, rfl, e3⟩
    refine wpAny_bind (owit_next FF ok.X II W.next W.isN ?_)
    cases us with
    | nil =>
      refine wpAny_call (codeAny_mono (hstop acc mem A.in1 ⟨hA.hh, hA.fr⟩ hAd hi R s (.ref fn) [.ref x] r .con (.cons .ref .nil)) fun res s' z => ?_)
      induction res with
      | ok f => exact z.elim
      | error e =>
        obtain ⟨e0, rfl, ⟨o, ho, hc⟩, R', g, st', r', mem', rfl, hX⟩ := z
        refine (?_ : OwitStop _ _ _ _ _ _)
        unfold OwitStop
        have hT : s'.TypeIs (.ref e0) "StopIteration" := (show ∃ o, s'.heap.get? e0 = some o ∧ o.cls = .type "StopIteration" from ⟨o, ho, hc⟩)
        refine wpAny_isInstance hT owsi_facts.sub ?_
        show (if true = true then _ else _)
        rw [if_pos rfl]
        refine wpAny_pure ?_
        refine ⟨rfl, R', g, mem', ?_, hX⟩
        rw [List.map_nil, List.append_nil]
        exact r'
    | cons u us =>
      refine wpAny_call (codeAny_mono (hnext u us acc mem A.in1 ⟨hA.hh, hA.fr⟩ hAd hi R s (.ref fn) [.ref x] [] r .con (.cons .ref .nil) .nil) fun res s' z => ?_)
      induction res with
      | error e => exact z.elim
      | ok f =>
        induction f with
        | ret v =>
          obtain ⟨R1, g1, sv, st1, r1, hv, rfl, mem', rfl, hi'⟩ := z
          have hz' : acc.length + us.length + 1 ≤ szB := by simpa [Nat.add_assoc] using hz
          show wpAny _ A.in1 (updateSeq S (·.push v) >>= _) _ _ _
          refine wpAny_bind (upd_list (acc' := acc ++ [.str false u]) r1 (by lia) (by simp; lia) (fun vs hvs => ⟨vs ++ [v], by simp, hvs.append (.cons hv .nil)⟩) fun h' r2 => ?_)
          refine wpAny_pure ⟨plainId_quiet F.plain_extend_loop _, ?_⟩
          refine codeAny_mono (extend_own ok W hA hAd hinst hnext hstop us R1 _ (acc ++ [.str false u]) mem' r2 hi' (by simp; lia)) fun res s' z => ?_
          induction res with
          | error e => exact z.elim
          | ok f =>
            induction f with
            | ret v' =>
              obtain ⟨rfl, R3, g3, mem3, r3, hX⟩ := z
              refine ⟨rfl, R3, g1.trans g3, mem3, ?_, hX⟩
              rw [List.map_cons]
              rw [List.append_assoc] at r3
              exact r3
            | _ => exact z.elim
        | _ => exact z.elim
end
theorem Cl.listOwn {C : Cx} (ok : C.Ok) {Cc fi fn : Addr} (W : OwnIt C.K Cc fi fn) {k : Nat} {x : Addr} {st : St} {us : List (List Nat)} {Q : SV → St → Prop} (I0 : Addr → List Cell → Prop) (I : Addr → List (List Nat) → List Cell → Prop) (X : Addr → List Cell → Prop) (hz : us.length ≤ szB)
    (h0 : ∀ S, I0 S st.mem)
    (hinst0 : ∀ S acc mem, I0 S mem → withInst (lst st.loc st.nk S acc mem) k x fun Cl as => Cl = Cc)
    (hinst : ∀ S us acc mem, I S us mem → withInst (lst st.loc st.nk S acc mem) k x fun Cl as => Cl = Cc)
    (hiter : ∀ S acc mem A1, SameA A1 C.A → A1.depth = C.A.depth → I0 S mem → Cu C A1 (.con (.ref fi)) [.ref k x] [] (lst st.loc st.nk S acc mem) fun v st' => v = .ref k x ∧ ∃ mem', st' = lst st.loc st.nk S acc mem' ∧ I S us mem')
    (hnext : ∀ S u us acc mem A1, SameA A1 C.A → A1.depth = C.A.depth → I S (u :: us) mem → Cu C A1 (.con (.ref fn)) [.ref k x] [] (lst st.loc st.nk S acc mem) fun v st' => v = .str false u ∧ ∃ mem', st' = lst st.loc st.nk S acc mem' ∧ I S us mem')
    (hstop : ∀ S acc mem A1, SameA A1 C.A → A1.depth = C.A.depth → I S [] mem → Cs C A1 (.con (.ref fn)) [.ref k x] (lst st.loc st.nk S acc mem) fun st' => ∃ mem', st' = lst st.loc st.nk S acc mem' ∧ X S mem')
    (hq : ∀ S mem', X S mem' → Q (.ref st.nk S) (lst st.loc st.nk S (us.map (.str false)) mem')) : Cl C (.con (.type "list")) [.ref k x] [] st Q := by
  intro R s v ws ks r hv hw hk
  obtain ⟨w, t, rfl, h1, h2⟩ := hw.uncons
  have := h2.unnil; subst this
  have := hk.unnil; subst this
  (first | obtain ⟨_, rfl⟩ := VR.str' hv | obtain ⟨_, rfl⟩ := VR.int' hv | obtain rfl := VR.ref' hv | obtain rfl := VR.con' hv | obtain ⟨_, rfl, _⟩ := VR.bm' hv | obtain ⟨rfl, _⟩ := VR.fz' hv | obtain rfl := VR.bool' hv | obtain rfl := VR.none' hv | cases hv); (first | obtain ⟨_, rfl⟩ := VR.str' h1 | obtain ⟨_, rfl⟩ := VR.int' h1 | obtain rfl := VR.ref' h1 | obtain rfl := VR.con' h1 | obtain ⟨_, rfl, _⟩ := VR.bm' h1 | obtain ⟨rfl, _⟩ := VR.fz' h1 | obtain rfl := VR.bool' h1 | obtain rfl := VR.none' h1 | cases h1)
  refine callType_codes (Q₁ := fun obj s₁ => obj = .ref s.heap.objs.size ∧ s₁ = { s with heap := s.heap.push { cls := .type "list", data := .seq #[] } }) F.called_list (F.typeCall_list_1 _) F.entry_list_init
    (code_list_new _ ⟨rfl, rfl⟩) fun obj s₁ h₁ => ?_
  obtain ⟨rfl, rfl⟩ := h₁
  have hS : (s.heap.push { cls := .type "list", data := .seq #[] }).get? s.heap.objs.size = some { cls := .type "list", data := .seq #[] } := Heap.get?_push_size _ rfl
  have rA : Rel C R (lst st.loc st.nk s.heap.objs.size [] st.mem) { s with heap := s.heap.push { cls := .type "list", data := .seq #[] } } :=
    r.add (s' := { s with heap := s.heap.push { cls := .type "list", data := .seq #[] } }) (r.keep (fun b o e => Heap.get?_push_of_some _ e) rfl rfl) (Nat.le_refl _) hS (.list (vs := []) (n := 0) .nil)
  refine ⟨⟨_, hS, rfl⟩, F.args_list_init_2 _ _, ?_⟩
  refine (?_ : wpAny _ C.A.in1.in1 (do let old ← Builtin.List.listItems (.ref s.heap.objs.size); Builtin.List.listUpdate (.ref s.heap.objs.size) (fun _ => #[]); letGo old.toList.reverse; Builtin.List.listExtendWith (.ref s.heap.objs.size) (.ref x) .none) _ _ _)
  refine wpAny_bind ?_
  unfold Builtin.List.listItems
  refine wpAny_bind (wpAny_seqItems hS rfl (wpAny_pure ?_))
  refine (?_ : wpAny _ C.A.in1.in1 (updateSeq s.heap.objs.size (fun _ => #[]) >>= fun _ => letGo (#[] : Array Value).toList.reverse >>= fun _ => Builtin.List.listExtendWith (.ref s.heap.objs.size) (.ref x) .none) _ _ _)
  refine wpAny_bind (upd_list (acc' := []) rA (Nat.zero_le _) (Nat.zero_le _) (fun vs hvs => ⟨[], rfl, .nil⟩) fun h1 r1 => ?_)
  refine wpAny_bind (wpAny_letGo ?_)
  generalize hSe : s.heap.objs.size = S at *
  obtain ⟨m, FF, hl⟩ := r1.fr
  obtain ⟨Cl, as, dx, sl, es, cc, e1, e2, e3, e4, e5, rfl⟩ := r1.inst (hinst0 S [] st.mem (h0 S))
  have hne : S ≠ x := fun q => (r1.frz _ _ e2).2.2 ⟨st.nk, S, .list []⟩ (.head _) q
  have I0' : InstAt h1 x ⟨.ref Cl, some dx, .plain, sl⟩ Cl (some (dictOf es cc)) := ⟨(r1.frz _ _ e2).1, rfl, rfl, e3⟩
  unfold Builtin.List.listExtendWith
  refine wpAny_bind (I0'.type.here ?_)
  have q1 : Builtin.List.listSameRef (.ref S) (.ref x) = false := by simp [Builtin.List.listSameRef, hne]
  have q2 : (Value.ref Cl == Value.type "list") = false := by rfl
  have q3 : (Value.ref Cl == Value.type "tuple") = false := by rfl
  simp only [q1, q2, q3, Bool.or_false, Bool.false_eq_true, if_false]
  refine wpAny_bind (owit_iter FF ok.X I0' W.iter W.isI ?_)
  refine wpAny_call (codeAny_mono (hiter S [] st.mem C.A.in1.in1 ⟨rfl, rfl⟩ rfl (h0 S) R _ (.ref fi) [.ref x] [] r1 .con (.cons .ref .nil) .nil) fun res s' z => ?_)
  induction res with
  | error e => exact z.elim
  | ok f =>
    induction f with
    | ret v =>
      obtain ⟨R2, g2, sv, st2, r2, hv, rfl, mem2, rfl, hi⟩ := z
      (first | obtain ⟨_, rfl⟩ := VR.str' hv | obtain ⟨_, rfl⟩ := VR.int' hv | obtain rfl := VR.ref' hv | obtain rfl := VR.con' hv | obtain ⟨_, rfl, _⟩ := VR.bm' hv | obtain ⟨rfl, _⟩ := VR.fz' hv | obtain rfl := VR.bool' hv | obtain rfl := VR.none' hv | cases hv)
      obtain ⟨m2, F2, hl2⟩ := r2.fr
      obtain ⟨Cl2, as2, dx2, sl2, es2, cc2, e21, e22, e23, e24, e25, hcl⟩ := r2.inst (hinst S us [] mem2 hi)
      have hcl : Cl2 = Cl := hcl
      subst hcl
      have I2 : InstAt s'.heap x ⟨.ref Cl2, some dx2, .plain, sl2⟩ Cl2 (some (dictOf es2 cc2)) := ⟨(r2.frz _ _ e22).1, rfl, rfl, e23⟩
      refine owit_it F2 ok.X I2 W.next ?_
      refine wpAny_bind (wpAny_holding ?_)
      unfold Builtin.List.listLengthHint
      refine wpAny_bind (wpAny_bind (I2.type.here ((looks_findIn (ok.X.keeps F2.keep) W.len).here ?_)))
      refine (?_ : wpAny _ _ (specialOf (Value.ref x) (Str.ofString "__length_hint__") >>= _) _ _ _)
      refine wpAny_bind (wpAny_bind (I2.type.here ((looks_findIn (ok.X.keeps F2.keep) W.hint).here ?_)))
      refine wpAny_pure ?_
      refine (?_ : wpAny _ _ (rule "list.extend.makes-room" >>= fun _ => Builtin.List.listTouch (.ref S) >>= fun _ => again (.builtin "list.extend.loop" ⟨[.ref S, .ref x, .none], []⟩)) _ _ _)
      refine wpAny_bind (wpAny_rule ?_)
      refine wpAny_bind ?_
      refine (?_ : wpAny _ _ (updateSeq S (·.push .none) >>= fun _ => updateSeq S (·.pop)) _ _ _)
      refine wpAny_bind (upd_list (acc' := [.none]) r2 (Nat.zero_le _) (by simp) (fun vs hvs => ⟨[.none], by refine rg hvs.unnil ?_; rfl, .cons .none .nil⟩) fun h3 r3 => ?_)
      refine upd_list (acc' := []) r3 (Nat.le_of_ble_eq_true rfl) (Nat.zero_le _) (fun vs hvs => ?_) fun h4 r4 => ?_
      · obtain ⟨v, t, rfl, _, ht⟩ := hvs.uncons
        have := ht.unnil; subst this
        exact ⟨[], rfl, .nil⟩
      refine wpAny_pure ⟨plainId_quiet F.plain_extend_loop _, ?_⟩
      refine codeAny_mono (extend_own ok W (A := C.A.in1) ⟨rfl, rfl⟩ rfl (I := I S) (X := X S) (hinst S) (hnext S) (hstop S) us R2 _ [] mem2 r4 hi (by simpa using hz)) fun res s5 z => ?_
      induction res with
      | error e => exact z.elim
      | ok f =>
        induction f with
        | ret v =>
          obtain ⟨rfl, R5, g5, mem5, r5, hX⟩ := z
          exact ⟨rfl, R5, g2.trans g5, .ref st.nk S, _, r5, .ref, hq S mem5 hX⟩
        | _ => exact z.elim
    | _ => exact z.elim
end Mine
end
end

section
open PySem PySem.W PySem.Calls PyProof.Rows
noncomputable section
set_option Elab.async false
set_option maxRecDepth 100000
set_option autoImplicit false
set_option genSizeOf false
set_option genInjectivity false
set_option linter.unusedVariables false
set_option maxHeartbeats 800000
namespace Mine
/-- the words of a text -/
inductive Words (com : S) : S → List S → Prop
  | stop {r} : okT com r → nextW none r = (none, true, []) → Words com r []
  | last {r u} : okT com r → nextW none r = (some u, true, []) → Words com r [u]
  | more {r u r' us} : okT com r → nextW none r = (some u, false, r') → Words com r' us → Words com r (u :: us)
/-- where the reader stands, and the words to come -/
inductive LexAt (com y : S) : SV → Nat → List S → Prop
  | here {d r us} (h : y = d ++ r) (w : Words com r us) : LexAt com y (.str true [32]) d.length us
  | gone : LexAt com y .none y.length []
theorem LexAt.reads {px a1 a2 : Addr} {com y : S} {s : SV} {ln : Int} {d : Nat} {us : List S} (h : LexAt com y s d us) (hz : y.length ≤ 100000) (h92 : mbr 92 com = false) :
    Reads 743 5 ⟨px, com, true, a1, a2⟩ y s ln d fun o s' d' => match us with | [] => o = none ∧ s' = .none ∧ d' = y.length | u :: us' => o = some u ∧ LexAt com y s' d' us' := by
  induction h with
  | gone =>
    refine get_reads fun C G x dx dx' loc Q hq => rt_none hz C G x dx dx' loc Q fun o s' d' ln' he => hq o s' d' ln' ?_
    rcases he with ⟨_, rfl, rfl, rfl⟩ | ⟨u, _, q, _⟩ | ⟨u, r', _, _, q, _⟩
    · exact ⟨rfl, rfl, rfl⟩
    · cases q
    · cases q
  | here hy w =>
    refine get_reads fun C G x dx dx' loc Q hq => ?_
    induction w with
    | stop hk hn =>
      refine rt_word hy hz hn hk h92 C G x dx dx' loc Q fun o s' d' ln' he => hq o s' d' ln' ?_
      rcases he with ⟨_, rfl, rfl, rfl⟩ | ⟨u, _, q, _⟩ | ⟨u, r', _, _, q, _⟩
      · exact ⟨rfl, rfl, rfl⟩
      · cases q
      · cases q
    | last hk hn =>
      refine rt_word hy hz hn hk h92 C G x dx dx' loc Q fun o s' d' ln' he => hq o s' d' ln' ?_
      rcases he with ⟨q, _⟩ | ⟨u, _, q, rfl, rfl, rfl⟩ | ⟨u, r', _, _, q, _⟩
      · cases q
      · cases q; exact ⟨rfl, .gone⟩
      · cases q
    | more hk hn w' =>
      refine rt_word hy hz hn hk h92 C G x dx dx' loc Q fun o s' d' ln' he => hq o s' d' ln' ?_
      rcases he with ⟨q, _⟩ | ⟨u, _, q, _⟩ | ⟨u, r', d0, _, q, rfl, rfl, h1, rfl⟩
      · cases q
      · cases q
      · cases q; exact ⟨rfl, .here h1 w'⟩
section
variable {prog : Program} {w : World} {A : Around} {g : Heap} {L : Addr} {fa : Addr} {name : Str} {cd : Value} {os : OsState} {ban : List Addr} {outs : List (Addr × Obj)} {oenv : List Env} {x dx dx' : Addr}
theorem next_body {p : ShP} {y : S} {s : SV} {ln : Int} {d : Nat} {u : S} {P : SV → Nat → Prop} {Q : SF → St → Prop} (hr : Reads 743 5 p y s ln d fun o s' d' => o = some u ∧ P s' d')
    (hQ : ∀ s' d' ln' st, P s' d' → List.Sublist (lexM x dx dx' p s' ln' y d') st.mem → Q (.ret (.str false u)) st) (hA : A.depth + 5 < 900) (ok : (cX prog w A g L name (fScope (stIn 34 10)) fa cd [] [] os ban outs oenv).Ok) :
    Es (cX prog w A g L name (fScope (stIn 34 10)) fa cd [] [] os ban outs oenv) (execs (fBody (stIn 34 10)) (Cx.env (cX prog w A g L name (fScope (stIn 34 10)) fa cd [] [] os ban outs oenv))) ⟨[("self", .ref 0 x)], lexM x dx dx' p s ln y d, 2⟩ Q := by
  refine blkR_ok (ev_ok ok 30) _ _ _ ?_
  refine Me.inst ok ⟨rfl, ⟨rfl, rfl, rfl, rfl⟩, ?_⟩
  refine ⟨rfl, hr _ (good ok hA) x dx dx' _ _ fun o s' d' ln' he => ?_⟩
  obtain ⟨rfl, hp⟩ := he
  refine Ga.at ok rfl rfl ?_
  exact hQ s' d' ln' _ hp (List.Sublist.refl _)
theorem stop_body {p : ShP} {y : S} {s : SV} {ln : Int} {d : Nat} {P : SV → Nat → Prop} {X : St → Prop} (hr : Reads 743 5 p y s ln d fun o s' d' => o = none ∧ P s' d')
    (hX : ∀ s' d' ln' st, P s' d' → List.Sublist (lexM x dx dx' p s' ln' y d') st.mem → X st) (hA : A.depth + 5 < 900) (ok : (cX prog w A g L name (fScope (stIn 34 10)) fa cd [] [] os ban outs oenv).Ok) :
    Eb (cX prog w A g L name (fScope (stIn 34 10)) fa cd [] [] os ban outs oenv) (fBody (stIn 34 10)) ⟨[("self", .ref 0 x)], lexM x dx dx' p s ln y d, 2⟩ X := by
  refine Eb.cut ok 30 1 (fun st => ∃ s' d' ln', P s' d' ∧ st = ⟨[("self", .ref 0 x), ("token", .none)], lexM x dx dx' p s' ln' y d', 2⟩) ?_ ?_
  · refine Me.inst ok ⟨rfl, ⟨rfl, rfl, rfl, rfl⟩, ?_⟩
    refine ⟨rfl, hr _ (good ok hA) x dx dx' _ _ fun o s' d' ln' he => ?_⟩
    obtain ⟨rfl, hp⟩ := he
    exact ⟨_, .rfl, s', d', ln', hp, rfl⟩
  · rintro st ⟨s', d', ln', hp, rfl⟩
    refine Eb.ite ok rfl rfl ?_
    refine (ev_ok ok 30).t _ _ _ ?_
    refine Ga.at ok rfl rfl ?_
    exact ⟨rfl, hX s' d' ln' _ hp (List.Sublist.refl _)⟩
end
end Mine
end
end

section
open PySem PySem.W PySem.Calls PyProof.Rows
noncomputable section
set_option Elab.async false
set_option maxRecDepth 100000
set_option autoImplicit false
set_option linter.unusedVariables false
set_option maxHeartbeats 800000
namespace Mine
noncomputable abbrev lexN (x dx dx' : Addr) (p : ShP) (s : SV) (ln : Int) (y : S) (d : Nat) : List Cell := [⟨1, dx', .attrs p.x' 647 (sioA y d)⟩, ⟨0, dx, .attrs x 782 (shA p s (.int false ln) (.str true []))⟩]
theorem ownit (P : Params) : OwnIt (KP P) 782 772 779 := ⟨by rfl, by rfl, by rfl, by rfl, by rfl, by rfl⟩
section
variable {prog : Program} {w : World} {A : Around} {g : Heap} {L : Addr} {fa : Addr} {name : Str} {scope : Scope} {cd : Value} {cells : List (Str × Addr)} {cvs : List (Str × SV)} {os : OsState} {ban : List Addr} {outs : List (Addr × Obj)} {oenv : List Env} {x dx dx' : Addr} {loc : List (Str × SV)} {S : Addr} {acc : List SV}
theorem next_cu (ok : (cX prog w A g L name scope fa cd cells cvs os ban outs oenv).Ok) {A0 : Around} (hA : A0.depth + 6 < 900) (hAh : SameA A0 A) {p : ShP} {y : Mine.S} {s : SV} {ln : Int} {d : Nat} {u : Mine.S} {P : SV → Nat → Prop} {Q : SV → St → Prop}
    (hr : Reads 743 5 p y s ln d fun o s' d' => o = some u ∧ P s' d') (hQ : ∀ s' d' ln', P s' d' → Q (.str false u) (lst loc 2 S acc (lexN x dx dx' p s' ln' y d'))) :
    Cu (cX prog w A g L name scope fa cd cells cvs os ban outs oenv) A0 (.con (.ref 779)) [.ref 0 x] [] (lst loc 2 S acc (lexN x dx dx' p s ln y d)) Q := by
  refine Cu.userB ok hAh (loc := [("self", .ref 0 x)]) (fk := [0, 1]) (ft := lexM x dx dx' p s ln y d) (show (KP w.params).lookup 779 = some _ from rfl) rfl (by lia) (by decide) rfl (Binds.of ?_) rfl (by decide +kernel : List.Nodup (["self"] : List Str)) ?_ ?_
  · intro R s ws ks r hw hk
    obtain ⟨v, t, rfl, h1, h3⟩ := hw.uncons
    have := h3.unnil; subst this
    have := hk.unnil; subst this
    exact ⟨[v], .cons h1 .nil, BindsTo.of_eq rfl⟩
  · decide +kernel
  · intro A' g L ban outs ok' hA'
    refine next_body hr (fun s' d' ln' st hp hs => ?_) (by lia) ok'
    exact ⟨[], lexM x dx dx' p s' ln' y d', .str false u, hs, rfl, fun _ _ h => h, hQ s' d' ln' hp⟩
theorem next_cs (ok : (cX prog w A g L name scope fa cd cells cvs os ban outs oenv).Ok) {A0 : Around} (hA : A0.depth + 6 < 900) (hAh : SameA A0 A) {p : ShP} {y : Mine.S} {s : SV} {ln : Int} {d : Nat} {P : SV → Nat → Prop} {X : St → Prop}
    (hr : Reads 743 5 p y s ln d fun o s' d' => o = none ∧ P s' d') (hX : ∀ s' d' ln', P s' d' → X (lst loc 2 S acc (lexN x dx dx' p s' ln' y d'))) :
    Cs (cX prog w A g L name scope fa cd cells cvs os ban outs oenv) A0 (.con (.ref 779)) [.ref 0 x] (lst loc 2 S acc (lexN x dx dx' p s ln y d)) X := by
  refine Cs.user ok hAh (loc := [("self", .ref 0 x)]) (fk := [0, 1]) (ft := lexM x dx dx' p s ln y d) (show (KP w.params).lookup 779 = some _ from rfl) rfl (by lia) (by decide) rfl (Binds.of ?_) rfl (by decide +kernel : List.Nodup (["self"] : List Str)) ?_ ?_
  · intro R s ws ks r hw hk
    obtain ⟨v, t, rfl, h1, h3⟩ := hw.uncons
    have := h3.unnil; subst this
    have := hk.unnil; subst this
    exact ⟨[v], .cons h1 .nil, BindsTo.of_eq rfl⟩
  · decide +kernel
  · intro A' g L ban outs ok' hA'
    refine stop_body hr (fun s' d' ln' st hp hs => ?_) (by lia) ok'
    exact ⟨lexM x dx dx' p s' ln' y d', hs, rfl, hX s' d' ln' hp⟩
theorem iter_body {p : ShP} {y : Mine.S} {s : SV} {ln : Int} {d : Nat} {Q : SF → St → Prop} (hQ : ∀ st, List.Sublist (lexM x dx dx' p s ln y d) st.mem → Q (.ret (.ref 0 x)) st) (ok : (cX prog w A g L name (fScope (stIn 34 9)) fa cd [] [] os ban outs oenv).Ok) :
    Es (cX prog w A g L name (fScope (stIn 34 9)) fa cd [] [] os ban outs oenv) (execs (fBody (stIn 34 9)) (Cx.env (cX prog w A g L name (fScope (stIn 34 9)) fa cd [] [] os ban outs oenv))) ⟨[("self", .ref 0 x)], lexM x dx dx' p s ln y d, 2⟩ Q := by
  refine blkR_ok (ev_ok ok 30) _ _ _ ?_
  exact hQ _ (List.Sublist.refl _)
theorem iter_cu (ok : (cX prog w A g L name scope fa cd cells cvs os ban outs oenv).Ok) {A0 : Around} (hA : A0.depth + 6 < 900) (hAh : SameA A0 A) {p : ShP} {y : Mine.S} {s : SV} {ln : Int} {d : Nat} {Q : SV → St → Prop}
    (hQ : Q (.ref 0 x) (lst loc 2 S acc (lexN x dx dx' p s ln y d))) :
    Cu (cX prog w A g L name scope fa cd cells cvs os ban outs oenv) A0 (.con (.ref 772)) [.ref 0 x] [] (lst loc 2 S acc (lexN x dx dx' p s ln y d)) Q := by
  refine Cu.userB ok hAh (loc := [("self", .ref 0 x)]) (fk := [0, 1]) (ft := lexM x dx dx' p s ln y d) (show (KP w.params).lookup 772 = some _ from rfl) rfl (by lia) (by decide) rfl (Binds.of ?_) rfl (by decide +kernel : List.Nodup (["self"] : List Str)) ?_ ?_
  · intro R s ws ks r hw hk
    obtain ⟨v, t, rfl, h1, h3⟩ := hw.uncons
    have := h3.unnil; subst this
    have := hk.unnil; subst this
    exact ⟨[v], .cons h1 .nil, BindsTo.of_eq rfl⟩
  · decide +kernel
  · intro A' g L ban outs ok' hA'
    refine iter_body (p := p) (y := y) (s := s) (ln := ln) (d := d) (dx := dx) (dx' := dx') (fun st hs => ?_) ok'
    exact ⟨[], lexM x dx dx' p s ln y d, .ref 0 x, hs, rfl, fun _ _ h => by cases h; exact .ref, hQ⟩
/-- list(lex) -/
theorem listlex (ok : (cX prog w A g L name scope fa cd cells cvs os ban outs oenv).Ok) (hA : A.depth + 6 < 900) {px a1 a2 : Addr} {com y : Mine.S} {us : List Mine.S} {Q : SV → St → Prop}
    (hw : Words com y us) (hz : y.length ≤ 100000) (hu : us.length ≤ szB) (h92 : mbr 92 com = false) (hQ : ∀ S mem, Q (.ref 2 S) (lst loc 2 S (us.map (.str false)) mem)) :
    Cl (cX prog w A g L name scope fa cd cells cvs os ban outs oenv) (.con (.type "list")) [.ref 0 x] [] ⟨loc, lexN x dx dx' ⟨px, com, true, a1, a2⟩ (.str true [32]) 1 y 0, 2⟩ Q := by
  refine Cl.listOwn ok (ownit w.params) (us := us) (fun _ mem => mem = lexN x dx dx' ⟨px, com, true, a1, a2⟩ (.str true [32]) 1 y 0)
    (fun _ us mem => ∃ s d ln, LexAt com y s d us ∧ mem = lexN x dx dx' ⟨px, com, true, a1, a2⟩ s ln y d) (fun _ _ => True) hu (fun _ => rfl) ?_ ?_ ?_ ?_ ?_ fun S mem _ => hQ S mem
  · rintro S acc mem rfl
    exact ⟨rfl, rfl⟩
  · rintro S us acc mem ⟨s, d, ln, _, rfl⟩
    exact ⟨rfl, rfl⟩
  · rintro S acc mem A1 h1 h2 rfl
    have h2 : A1.depth = A.depth := h2
    exact iter_cu ok (by lia) h1 ⟨rfl, _, rfl, _, _, _, .here (d := []) rfl hw, rfl⟩
  · rintro S u us acc mem A1 h1 h2 ⟨s, d, ln, h, rfl⟩
    have h2 : A1.depth = A.depth := h2
    exact next_cu ok (by lia) h1 (h.reads hz h92) fun s' d' ln' hp => ⟨rfl, _, rfl, _, _, _, hp, rfl⟩
  · rintro S acc mem A1 h1 h2 ⟨s, d, ln, h, rfl⟩
    have h2 : A1.depth = A.depth := h2
    exact next_cs ok (by lia) h1 (h.reads hz h92) fun s' d' ln' hp => ⟨_, rfl, trivial⟩
end
end Mine
end
end

section
open PySem PySem.W PySem.Calls PyProof.Rows
noncomputable section
set_option Elab.async false
set_option maxRecDepth 100000
set_option autoImplicit false
set_option linter.unusedVariables false
set_option maxHeartbeats 800000
namespace Mine
theorem Lo.rfl : ∀ {l : List (Str × SV)}, Lo l l
  | [] => .nil
  | _ :: _ => .cons SVle.rfl Lo.rfl
theorem Cl.le {C : Cx} {f : SV} {args : List SV} {kw : List (Str × SV)} {st st' : St} {Q : SV → St → Prop} (hle : Le C st st') (h : Cl C f args kw st' Q) : Cl C f args kw st Q := fun R s v ws ks r => h R s v ws ks (hle R s r)
noncomputable def comOf (b : Bool) : S := match b with | true => [35] | false => []
section
variable {prog : Program} {w : World} {A : Around} {g : Heap} {L : Addr} {fa : Addr} {name : Str} {cd : Value} {os : OsState} {ban : List Addr} {outs : List (Addr × Obj)} {oenv : List Env}
theorem split_body {y : S} {b : Bool} {us : List S} {Q : SF → St → Prop} (hw : Words (comOf b) y us) (hz : y.length ≤ 100000) (hu : us.length ≤ szB)
    (hQ : ∀ l st, List.Sublist [(⟨2, l, .list (us.map (.str false))⟩ : Cell)] st.mem → Q (.ret (.ref 2 l)) st) (hA : A.depth + 6 < 900) (ok : (cX prog w A g L name (fScope (stAt 35)) fa cd [] [] os ban outs oenv).Ok) :
    Es (cX prog w A g L name (fScope (stAt 35)) fa cd [] [] os ban outs oenv) (execs (fBody (stAt 35)) (Cx.env (cX prog w A g L name (fScope (stAt 35)) fa cd [] [] os ban outs oenv))) ⟨[("s", .str false y), ("comments", .bool false b), ("posix", .bool true true)], [], 0⟩ Q := by
  refine blkR_ok (ev_ok ok 30) _ _ _ ?_
  refine Ev.callKw ok rfl ?_
  refine (ev_ok ok 30).e _ _ _ ?_
  refine (ev_ok ok 30).e _ _ _ ?_
  refine (ev_ok ok 30).e _ _ _ ?_
  refine ⟨rfl, shlex_cl (good ok hA) fun x dx x' dx' a1 a2 => ?_⟩
  refine Sa.at ok rfl rfl ?_
  refine ⟨fun q => ?_, fun q => ?_⟩
  · have hb : b = true := by induction b <;> simp_all
    subst hb
    refine ⟨rfl, Cl.le (Le.mk .rfl (.cons (fun R o h => OR.al (.cons .rfl (.cons .rfl (.cons (SVle.int rfl) .nil))) h) (.cons (fun R o h => OR.al (shAl (p := ⟨x', [35], true, a1, a2⟩) .rfl (SVle.int rfl) .rfl) h) .nil))) (listlex ok hA hw hz hu rfl fun S mem => ?_)⟩
    exact hQ S _ (List.Sublist.cons₂ _ (List.nil_sublist _))
  · refine Sa.at ok rfl rfl ?_
    have hb : b = false := by induction b <;> simp_all
    subst hb
    refine ⟨rfl, Cl.le (Le.mk .rfl (.cons (fun R o h => OR.al (.cons .rfl (.cons .rfl (.cons (SVle.int rfl) .nil))) h) (.cons (fun R o h => OR.al (shAl (p := ⟨x', [], true, a1, a2⟩) .rfl (SVle.int rfl) .rfl) h) .nil))) (listlex ok hA hw hz hu rfl fun S mem => ?_)⟩
    exact hQ S _ (List.Sublist.cons₂ _ (List.nil_sublist _))
end
theorem split_cl {C : Cx} (G : Good C 7) {c cc : Bool} {y : S} {b : Bool} {us : List S} {st : St} {Q : SV → St → Prop} (hw : Words (comOf b) y us) (hz : y.length ≤ 100000) (hu : us.length ≤ szB)
    (h : ∀ l, Q (.ref st.nk l) ⟨st.loc, ⟨st.nk, l, .list (us.map (.str false))⟩ :: st.mem, st.nk + 1⟩) : Cl C (.con (.ref 794)) [.str cc y, .bool c b] [] st Q := by
  refine G.elim (P := fun C => Cl C (.con (.ref 794)) [.str cc y, .bool c b] [] st Q) fun prog w A g L name scope fa cd cells cvs os ban outs oenv ok hroom => ?_
  refine Cu.cl (Cu.user ok rfl .rfl (loc := [("s", .str false y), ("comments", .bool false b), ("posix", .bool true true)]) (fk := []) (ft := []) (show (KP w.params).lookup 794 = some _ from rfl) rfl (show A.depth + 1 < 900 by first | exact dp hroom rfl | exact dp hA rfl | lia) (by simp) rfl ?_ rfl (by decide +kernel : List.Nodup (["s", "comments", "posix"] : List Str)) ?_ ?_)
  · intro R s ws ks r hw hk
    obtain ⟨v, t, rfl, h1, hw⟩ := hw.uncons
    obtain ⟨v2, t, rfl, h2, h3⟩ := hw.uncons
    have := h3.unnil; subst this
    have := hk.unnil; subst this
    cases h1; cases h2
    obtain ⟨m, F, _⟩ := r.fr
    exact ⟨[_, _, _], .cons .str (.cons .bool (.cons .bool .nil)), BindsTo.of_defaults (T := 787) rfl ((ok.X.keeps F.keep) 787 _ rfl) rfl rfl rfl⟩
  · decide +kernel
  · intro A' g L ban outs ok' hA'
    have hA' : A'.depth = A.depth + 1 := hA'
    refine split_body hw hz hu (fun l st2 hs => ?_) (by lia) ok'
    exact ⟨[⟨2, l, .list (us.map (.str false))⟩], [], .ref st.nk l, hs, rfl, fun R y h => by cases h; exact .ref, h l⟩
end Mine
end
end

section
open PySem PySem.W PySem.Calls PyProof.Rows
noncomputable section
set_option Elab.async false
set_option maxRecDepth 100000
set_option autoImplicit false
set_option genSizeOf false
set_option genInjectivity false
set_option linter.unusedVariables false
namespace Mine
/-! list comprehensions of one clause -/
section
variable {C : Cx} {R : Frz} {st st' : St} {s s' : Shared}
theorem Rel.add' {a : Addr} {o : Obj} {so : SO} (r : Rel C R st s) (r' : Rel C R st' s') (hm : st'.mem = st.mem) (ha : s.heap.get? a = none) (hget : s'.heap.get? a = some o) (hor : OR R a so o) :
    Rel C R { st' with mem := ⟨st'.nk, a, so⟩ :: st'.mem, nk := st'.nk + 1 } s' := by
  have fresh : ∀ b o, s.heap.get? b = some o → b ≠ a := fun b o e q => by replace e := ha ▸ q ▸ e; exact nsE e
  obtain ⟨m, F, hl⟩ := r.fr
  obtain ⟨oL, es, ep, e1, e2⟩ := F.ns
  refine ⟨r'.fr, fun c hc => ?_, fun b ob h => ⟨(r'.frz b ob h).1, (r'.frz b ob h).2.1, fun c hc => ?_⟩, r'.ban, ?_, r'.cvs, r'.gens, r'.os, fun p hp => ?_⟩
  · rcases List.mem_cons.mp hc with rfl | hc
    · refine ⟨o, hor, hget, (fresh _ _ e1).symm, ?_⟩
      refine (?_ : C.h₀.get? a = none)
      cases q : C.h₀.get? a with
      | none => rfl
      | some x => exact absurd rfl (fresh _ _ (F.keep _ _ q))
    · exact r'.mem c hc
  · rcases List.mem_cons.mp hc with rfl | hc
    · exact (fresh b ob (r.frz b ob h).1).symm
    · exact (r'.frz b ob h).2.2 c hc
  · refine List.nodup_cons.mpr ⟨fun q => ?_, r'.nd⟩
    replace q := hm ▸ q
    obtain ⟨c, hc, e⟩ := List.mem_map.mp q
    obtain ⟨o', _, g, _⟩ := r.mem c hc
    exact fresh _ _ g e
  · obtain ⟨a1, b1, sl, e1⟩ := r'.outs p hp
    obtain ⟨_, _, sl0, e0⟩ := r.outs p hp
    refine ⟨a1, fun c hc => ?_, sl, e1⟩
    rcases List.mem_cons.mp hc with rfl | hc
    · exact (fresh _ _ e0).symm
    · exact b1 c hc
theorem Rel.stored {x : Str} {v : SV} {val : Value} {m : Str → Option Value} (r : Rel C R st s) (hv : VR R v val) (F : Fr C.h₀ C.L s.heap m)
    (hl : ∀ x v, lk st.loc x = some v → ∃ val, m x = some val ∧ VR R v val)
    (hn : s'.heap.Ns C.L (fun y => if y = x then some val else m y)) (hk : ∀ b o, b ≠ C.L → s.heap.get? b = some o → s'.heap.get? b = some o) (hg : s'.gens = s.gens) (ho : s'.os = s.os) :
    Rel C R { st with loc := setL st.loc x v } s' := by
  refine ⟨⟨_, ⟨hn, fun b o e => hk b o (fun q => ?_) (F.keep b o e), F.above⟩, fun y u hy => ?_⟩, fun c hc => ?_, fun a o h => ?_, r.ban, r.nd, r.cvs, hg.trans r.gens, ho.trans r.os, fun p hp => let ⟨a, b, sl, e⟩ := r.outs p hp; ⟨a, b, sl, hk _ _ a e⟩⟩
  · replace e := q ▸ e
    exact absurd (Heap.lt_size e) (Nat.not_lt.mpr F.above)
  · dsimp only at hy
    rw [lk_setL] at hy
    by_cases e : y = x
    · rw [if_pos e] at hy ⊢; obtain rfl := Option.some.inj hy; exact ⟨_, rfl, hv⟩
    · rw [if_neg e] at hy ⊢; exact hl y u hy
  · obtain ⟨o, a, b, d⟩ := r.mem c hc
    exact ⟨o, a, hk _ _ d.1 b, d⟩
  · obtain ⟨a, b, d⟩ := r.frz a o h
    exact ⟨hk _ _ b a, b, d⟩
end
/-- what a value gives when it is walked -/
noncomputable def Src (C : Cx) (v : SV) (st : St) (xs : List SV) : Prop := ∀ R s val, Rel C R st s → VR R v val → ∀ (Q : Value → Shared → Prop) (E : Value → Shared → Prop),
  (∀ s2 I fp P St, (∀ b o, s.heap.get? b = some o → s2.heap.get? b = some o) → s.heap.objs.size ≤ I → Rel C R st s2 → Walks C.prog C.w C.A I fp [I] xs.length P St → (∀ i v, P i v → ∃ y, xs[i]? = some y ∧ VR R y v) →
    St 0 s2.heap → (∀ b ∈ fp, b < s2.heap.objs.size) → Q (.ref I) s2) → wpAny C.M C.A (pyIter val) Q E s
theorem Src.list {C : Cx} (ok : C.Ok) {k : Nat} {a : Addr} {st : St} {xs : List SV} (h : withList st k a (· = xs)) : Src C (.ref k a) st xs := by
  intro R s val r hv Q E hq; (first | obtain ⟨_, rfl⟩ := VR.str' hv | obtain ⟨_, rfl⟩ := VR.int' hv | obtain rfl := VR.ref' hv | obtain rfl := VR.con' hv | obtain ⟨_, rfl, _⟩ := VR.bm' hv | obtain ⟨rfl, _⟩ := VR.fz' hv | obtain rfl := VR.bool' hv | obtain rfl := VR.none' hv | cases hv)
  obtain ⟨xs', vs, n, e1, e2, e3, rfl⟩ := r.list h
  have hlt := Heap.lt_size e3
  refine wpAny_pyIter_list (isList_of e3) ?_
  have W := Walks.list (prog := C.prog) (w := C.w) (A := C.A) ok.hh s.heap.objs.size a (Nat.ne_of_lt hlt) vs.toArray
  have hz : vs.toArray.size = xs'.length := by simp [e2.len]
  replace W := hz ▸ W
  refine hq { s with heap := s.heap.push _ } s.heap.objs.size _ _ _ (fun b o e => Heap.get?_push_of_some _ e) (Nat.le_refl _) (r.keep (fun b o e => Heap.get?_push_of_some _ e) rfl rfl) W (fun i v hv => ?_) ⟨⟨_, Heap.get?_push_size _ rfl, rfl, rfl⟩, (isList_of e3).push _⟩ fun b hb => ?_
  · have hv : vs[i]? = some v := by simpa using hv
    have hi : i < xs'.length := by refine rg e2.len ?_; exact (List.getElem?_eq_some_iff.mp hv).1
    exact ⟨xs'[i], List.getElem?_eq_getElem hi, e2.at_ i _ _ (List.getElem?_eq_getElem hi) hv⟩
  · refine (?_ : b < (s.heap.push _).objs.size)
    refine rg (Heap.size_push ..) ?_
    rcases List.mem_cons.mp hb with rfl | hb
    · exact Nat.lt_succ_self _
    · refine rg (List.mem_singleton.mp hb) ?_; exact Nat.lt_succ_of_lt hlt
theorem Src.str {C : Cx} (ok : C.Ok) {c : Bool} {x : List Nat} {st : St} : Src C (.str c x) st (x.map fun c => .str false [c]) := by
  intro R s val r hv Q E hq; (first | obtain ⟨_, rfl⟩ := VR.str' hv | obtain ⟨_, rfl⟩ := VR.int' hv | obtain rfl := VR.ref' hv | obtain rfl := VR.con' hv | obtain ⟨_, rfl, _⟩ := VR.bm' hv | obtain ⟨rfl, _⟩ := VR.fz' hv | obtain rfl := VR.bool' hv | obtain rfl := VR.none' hv | cases hv)
  refine wpAny_pyIter_str fun o St hW hst => ?_
  have W := hW C.A ok.hh
  have hz : (⟨x.toArray⟩ : Str).cps.size = (x.map fun c => SV.str false [c]).length := by simp
  replace W := hz ▸ W
  refine hq { s with heap := s.heap.push o } s.heap.objs.size _ _ _ (fun b o e => Heap.get?_push_of_some _ e) (Nat.le_refl _) (r.keep (fun b o e => Heap.get?_push_of_some _ e) rfl rfl) W (fun i v hv => ?_) hst fun b hb => ?_
  · obtain ⟨c, u, h1, rfl⟩ := hv
    exact ⟨.str false [c], by refine rg (List.getElem?_map) ?_; have h1 : x[i]? = some c := by simpa using h1
                              refine rg h1 ?_; rfl, .str (s := [c])⟩
  · refine (?_ : b < (s.heap.push _).objs.size)
    refine rg (Heap.size_push ..) (rg (List.mem_singleton.mp hb) ?_)
    exact Nat.lt_succ_self _
theorem Src.range {C : Cx} (ok : C.Ok) {n : Nat} {a : Addr} {o : Obj} {st : St} (ho : RangeO n o) (hn : n ≤ szB) : Src C (.fz a o) st (rangeS n) := by
  intro R s val r hv Q E hq
  cases hv with
  | fz ha =>
    obtain ⟨t, u, v, rfl⟩ := ho
    unfold szB at hn
    refine wpAny_pyIter_range (r.frz _ _ ha).1 (small_one (by lia) (by lia) (by lia) (by lia)) ?_
    have W := (Walks.range (prog := C.prog) (w := C.w) (A := C.A) ok.hh s.heap.objs.size 0 1 n).bound
    have hz : n = (rangeS n).length := by simp [rangeS]
    refine hq { s with heap := s.heap.push _ } s.heap.objs.size _ _ _ (fun b o e => Heap.get?_push_of_some _ e) (Nat.le_refl _) (r.keep (fun b o e => Heap.get?_push_of_some _ e) rfl rfl) (by refine rl hz ?_; exact W) (fun i v hv => ?_) ?_ fun b hb => ?_
    · obtain ⟨hi, t, rfl⟩ := hv
      refine ⟨.int false (i : Int), ?_, by refine rg (Int.zero_add ..) (rg (Int.mul_one ..) ?_); exact .int⟩
      refine rg (List.getElem?_map) (rg (List.getElem?_range hi) ?_); rfl
    · refine (?_ : IsRangeIter _ _ _ _ _)
      refine rg (rangeSize_one ..) ?_
      have : (if (0 : Int) < n then (n : Int) - 0 else 0) = (n : Int) - ((0 : Nat) : Int) := by split <;> lia
      refine rg this ?_
      exact Heap.get?_push_size _ rfl
    · refine (?_ : b < (s.heap.push _).objs.size)
      refine rg (Heap.size_push ..) (rg (List.mem_singleton.mp hb) ?_)
      exact Nat.lt_succ_self _
/-- the tests and the element of a comprehension, on their own -/
structure Quiet1 (C : Cx) (scope : Scope) (cl : List (Str × Addr)) (x : Str) (ifs : List Expr) (elt : Expr) (p : Value → Bool) (F : Value → Value → Prop) (R : Frz) (s1 : Shared) (xs : List SV) : Prop where
  tests : ∀ D v s₃ m₃ E', (∃ y ∈ xs, VR R y v) → s₃.heap.Ns D m₃ → m₃ x = some v → (∀ b o, s1.heap.get? b = some o → s₃.heap.get? b = some o) →
    wpAny C.M C.A (forIn ifs true fun c r => if r = true then do let ok ← isTrue c (compEnvC scope cl D C.env) (eval c (compEnvC scope cl D C.env)); pure (ForInStep.yield ok) else pure (ForInStep.yield r))
      (fun ok s₄ => ok = p v ∧ Keeps s₃ s₄) E' s₃
  elt : ∀ D v s₃ m₃ E', (∃ y ∈ xs, VR R y v) → p v = true → s₃.heap.Ns D m₃ → m₃ x = some v → (∀ b o, s1.heap.get? b = some o → s₃.heap.get? b = some o) →
    wpAny C.M C.A (eval elt (compEnvC scope cl D C.env)) (fun y s₄ => F v y ∧ Keeps s₃ s₄) E' s₃
noncomputable def CompSpec (C : Cx) (scope : Scope) (cl : List (Str × Addr)) (x : Str) (ifs : List Expr) (elt : Expr) (p : Value → Bool) (F : Value → Value → Prop) (v : SV) (st1 : St) (ys : List SV) : Prop :=
  ∃ xs, Src C v st1 xs ∧ xs.length ≤ szB ∧ (∀ R s1, Rel C R st1 s1 → Quiet1 C scope cl x ifs elt p F R s1 xs) ∧ ∀ R vs zs, VRs R xs vs → Paired F (vs.filter p) zs → VRs R ys zs
section
variable {C : Cx} {st : St} {elt iter : Expr} {x y : Str} {px py : Pos} {ifs : List Expr} {scope : Scope} {cl : List (Str × Addr)} {pos spos : Pos}
theorem Ev.comp (ok : C.Ok) {Q : SV → St → Prop} (p : Value → Bool) (F : Value → Value → Prop) (hclos : closureFor scope C.env = pure cl) (hcell : ∀ y ∈ scope.names, y.2 ≠ .cell) (hkind : scope.kind = .function)
    (hnames : ∀ y ∈ scope.names, y.2 = .local → scope.names.lookup y.1 = some .local) (hx : scope.names.lookup x = some .local) (hs : ∀ x, foldedSetIterable iter C.env x = pure x)
    (h : Ev C (eval iter C.env) st fun v st1 => ∃ ys, CompSpec C scope cl x ifs elt p F v st1 ys ∧ ∀ D, Q (.ref st1.nk D) ⟨st1.loc, ⟨st1.nk, D, .list ys⟩ :: st1.mem, st1.nk + 1⟩) :
    Ev C (eval (.ListComp elt [⟨.Name x px, iter, ifs, 0⟩] scope pos) C.env) st Q := by
  intro R s r
  refine wpAny_ListComp_free p F hclos hcell hkind hnames hx (wpAny_mono (h R s r) ?_ fun _ _ e => e) hs
  rintro v s1 ⟨R1, g1, sv, st1, r1, hv, ys, ⟨xs, hsrc, hlen, hq, hys⟩, hQ⟩
  refine hsrc R1 s1 v r1 hv _ _ fun s2 I fp P St hk hI r2 W hP hst hfp => ?_
  have lt : ∀ b o, s1.heap.get? b = some o → b ∉ [I] := fun b o e q => absurd (Heap.lt_size e) (Nat.not_lt.mpr (List.mem_singleton.mp q ▸ hI))
  have q1 := hq R1 s1 r1
  refine ⟨I, fp, [I], xs.length, P, St, rfl, W, Nat.le_trans hlen szB_line, hst, hfp, ⟨fun D i v s₃ m₃ E' _ hp hn hm hk3 _ => ?_, fun D i v s₃ m₃ E' _ hp hpv hn hm hk3 _ => ?_⟩, fun D h' tk ys' vs hD hl hpl hvl hPv hF hk' => ?_⟩
  · obtain ⟨y, hy, hvy⟩ := hP i v hp
    exact q1.tests D v s₃ m₃ E' ⟨y, List.mem_of_getElem? hy, hvy⟩ hn hm fun b o e => hk3 b o (lt b o e) (hk b o e)
  · obtain ⟨y, hy, hvy⟩ := hP i v hp
    exact q1.elt D v s₃ m₃ E' ⟨y, List.mem_of_getElem? hy, hvy⟩ hpv hn hm fun b o e => hk3 b o (lt b o e) (hk b o e)
  · obtain ⟨c, hpl⟩ := hpl
    have hv1 : VRs R1 xs vs := ⟨hvl.symm, fun i y v hy hv => by
      obtain ⟨y', h1, h2⟩ := hP i v (hPv i v hv)
      replace h1 := hy ▸ h1; (first | obtain ⟨_, rfl⟩ := VR.str' h1 | obtain ⟨_, rfl⟩ := VR.int' h1 | obtain rfl := VR.ref' h1 | obtain rfl := VR.con' h1 | obtain ⟨_, rfl, _⟩ := VR.bm' h1 | obtain ⟨rfl, _⟩ := VR.fz' h1 | obtain rfl := VR.bool' h1 | obtain rfl := VR.none' h1 | obtain rfl := Option.some.inj h1); exact h2⟩
    have hz := hys R1 vs ys'.toList hv1 hF
    have rk := r1.keep (s' := { s2 with heap := h', toks := tk }) (fun b o e => hk' b o (lt b o e) (hk b o e)) (r2.gens.trans r1.gens.symm) (r2.os.trans r1.os.symm)
    have hD1 : s1.heap.get? D = none := by
      cases q : s1.heap.get? D with
      | none => rfl
      | some o => replace hD := (hk D o q) ▸ hD; exact snE hD
    exact ⟨R1, g1, .ref st1.nk D, _, r1.add' rk rfl hD1 (so := .list ys) hpl (.list (n := c) (vs := ys'.toList) hz), .ref, hQ D⟩
theorem Es.assignComp (ok : C.Ok) {Q : SF → St → Prop} (p : Value → Bool) (F : Value → Value → Prop) (hsw : swapsWith (.ListComp elt [⟨.Name x px, iter, ifs, 0⟩] scope pos) (some (.Name y py)) spos.line C.env = pure true)
    (hclos : closureFor scope C.env = pure cl) (hcell : ∀ y ∈ scope.names, y.2 ≠ .cell) (hkind : scope.kind = .function)
    (hnames : ∀ y ∈ scope.names, y.2 = .local → scope.names.lookup y.1 = some .local) (hx : scope.names.lookup x = some .local) (hy : lk C.scope.names y = some .local) (hs : ∀ x, foldedSetIterable iter C.env x = pure x)
    (h : Ev C (eval iter C.env) st fun v st1 => ∃ ys, CompSpec C scope cl x ifs elt p F v st1 ys ∧ ∀ D, Q .next ⟨setL st1.loc y (.ref st1.nk D), ⟨st1.nk, D, .list ys⟩ :: st1.mem, st1.nk + 1⟩) :
    Es C (exec (.Assign [.Name y py] (.ListComp elt [⟨.Name x px, iter, ifs, 0⟩] scope pos) spos) C.env) st Q := by
  intro R s r
  refine wpAny_Assign_ListComp_free p F hsw hclos hcell hkind hnames hx ((lk_lookup _ _).trans hy) (by refine (?_ : (C.scope.kind == _ || (C.scope.kind == _ && _)) = false); refine rg ok.hk ?_; rfl) (wpAny_mono (h R s r) ?_ fun _ _ e => e) hs
  rintro v s1 ⟨R1, g1, sv, st1, r1, hv, ys, ⟨xs, hsrc, hlen, hq, hys⟩, hQ⟩
  refine hsrc R1 s1 v r1 hv _ _ fun s2 I fp P St hk hI r2 W hP hst hfp => ?_
  have lt : ∀ b o, s1.heap.get? b = some o → b ∉ [I] := fun b o e q => absurd (Heap.lt_size e) (Nat.not_lt.mpr (List.mem_singleton.mp q ▸ hI))
  have q1 := hq R1 s1 r1
  obtain ⟨m, FF, hl⟩ := r2.fr
  have hL : C.L ∉ [I] := fun q => absurd r1.lt (Nat.not_lt.mpr (List.mem_singleton.mp q ▸ hI))
  refine ⟨I, fp, [I], xs.length, P, St, m, rfl, W, Nat.le_trans hlen szB_line, hst, hfp, hL, FF.ns, ⟨fun D i v s₃ m₃ E' _ hp hn hm hk3 _ => ?_, fun D i v s₃ m₃ E' _ hp hpv hn hm hk3 _ => ?_⟩, fun D h' tk ys' vs hD hl' hpl hvl hPv hF hns hk' => ?_⟩
  · obtain ⟨y, hy, hvy⟩ := hP i v hp
    exact q1.tests D v s₃ m₃ E' ⟨y, List.mem_of_getElem? hy, hvy⟩ hn hm fun b o e => hk3 b o (lt b o e) (hk b o e)
  · obtain ⟨y, hy, hvy⟩ := hP i v hp
    exact q1.elt D v s₃ m₃ E' ⟨y, List.mem_of_getElem? hy, hvy⟩ hpv hn hm fun b o e => hk3 b o (lt b o e) (hk b o e)
  · obtain ⟨c, hpl⟩ := hpl
    have hv1 : VRs R1 xs vs := ⟨hvl.symm, fun i y v hy hv => by
      obtain ⟨y', h1, h2⟩ := hP i v (hPv i v hv)
      replace h1 := hy ▸ h1; (first | obtain ⟨_, rfl⟩ := VR.str' h1 | obtain ⟨_, rfl⟩ := VR.int' h1 | obtain rfl := VR.ref' h1 | obtain rfl := VR.con' h1 | obtain ⟨_, rfl, _⟩ := VR.bm' h1 | obtain ⟨rfl, _⟩ := VR.fz' h1 | obtain rfl := VR.bool' h1 | obtain rfl := VR.none' h1 | obtain rfl := Option.some.inj h1); exact h2⟩
    have hz := hys R1 vs ys'.toList hv1 hF
    obtain ⟨m1, FF1, hl1⟩ := r1.fr
    have hD1 : s1.heap.get? D = none := by
      cases q : s1.heap.get? D with
      | none => rfl
      | some o => replace hD := (hk D o q) ▸ hD; exact snE hD
    have rs : Rel C R1 { st1 with loc := setL st1.loc y (.ref st1.nk D) } { s1 with heap := h', toks := tk } := by
      refine Rel.stored (s := s1) (val := .ref D) r1 .ref FF1 hl1 ?_ (fun b o hb e => hk' b o hb (lt b o e) (hk b o e)) rfl rfl
      obtain ⟨oL, es, ep, z1, z2⟩ := FF1.ns
      have hm : m = m1 := by
        obtain ⟨oL', es', ep', w1, w2⟩ := FF.ns
        replace w1 := (hk _ _ z1) ▸ w1; obtain rfl := Option.some.inj w1
        obtain ⟨z3, z4, z5⟩ := z2
        obtain ⟨w3, w4, w5⟩ := w2
        replace w3 := z3 ▸ w3; cases w3
        funext q
        exact (w5 q).symm.trans (z5 q)
      refine rl hm ?_; exact hns
    have ra := r1.add' rs rfl hD1 (so := .list ys) hpl (.list (n := c) (vs := ys'.toList) hz)
    have rr : ({ s1 with heap := h', toks := tk } : Shared).gens = s2.gens := r1.gens.trans r2.gens.symm
    have ro : ({ s1 with heap := h', toks := tk } : Shared).os = s2.os := r1.os.trans r2.os.symm
    refine ⟨R1, g1, .next, _, ⟨ra.fr, ra.mem, ra.frz, ra.ban, ra.nd, ra.cvs, r2.gens, r2.os, ra.outs⟩, .next, hQ D⟩
end
end Mine
end
end

section
open PySem PySem.W PySem.Calls PyProof.Rows
noncomputable section
set_option Elab.async false
set_option maxRecDepth 100000
set_option autoImplicit false
set_option linter.unusedVariables false
namespace Mine
section
variable {C : Cx} {st : St} {Q : SV → St → Prop}
theorem Me.extend {k : Nat} {a : Addr} {Q : SV → List SV → St → Prop} (h : withList st k a fun _ => Q (.con (.builtin "list.extend")) [.ref k a] st) : Me C (.ref k a) "extend" st Q := by
  intro R s v pl r hv; (first | obtain ⟨_, rfl⟩ := VR.str' hv | obtain ⟨_, rfl⟩ := VR.int' hv | obtain rfl := VR.ref' hv | obtain rfl := VR.con' hv | obtain ⟨_, rfl, _⟩ := VR.bm' hv | obtain ⟨rfl, _⟩ := VR.fz' hv | obtain rfl := VR.bool' hv | obtain rfl := VR.none' hv | cases hv)
  obtain ⟨xs, vs, n, e1, e2, e3, h⟩ := r.list h
  exact getMethod_list_of PySem.F.slot_list_extend PySem.F.type_list_extend (isList_of e3) ⟨_, e3, rfl⟩ ⟨R, .rfl, _, _, st, r, .con, .cons .ref .nil, h⟩
theorem Cl.extend {k k' : Nat} {a b : Addr} (h : withList st k a fun xs => withList st k' b fun ys => xs.length + ys.length ≤ szB ∧ Q .none { st with mem := mset st.mem k (.list (xs ++ ys)) }) : Cl C (.con (.builtin "list.extend")) [.ref k a, .ref k' b] [] st Q := by
  intro R s v ws ks r hv hw hk
  obtain ⟨w0, t, rfl, h0, hw⟩ := hw.uncons
  obtain ⟨w, t, rfl, h1, h2⟩ := hw.uncons
  have := h2.unnil; subst this
  have := hk.unnil; subst this
  (first | obtain ⟨_, rfl⟩ := VR.str' hv | obtain ⟨_, rfl⟩ := VR.int' hv | obtain rfl := VR.ref' hv | obtain rfl := VR.con' hv | obtain ⟨_, rfl, _⟩ := VR.bm' hv | obtain ⟨rfl, _⟩ := VR.fz' hv | obtain rfl := VR.bool' hv | obtain rfl := VR.none' hv | cases hv); (first | obtain ⟨_, rfl⟩ := VR.str' h0 | obtain ⟨_, rfl⟩ := VR.int' h0 | obtain rfl := VR.ref' h0 | obtain rfl := VR.con' h0 | obtain ⟨_, rfl, _⟩ := VR.bm' h0 | obtain ⟨rfl, _⟩ := VR.fz' h0 | obtain rfl := VR.bool' h0 | obtain rfl := VR.none' h0 | cases h0); (first | obtain ⟨_, rfl⟩ := VR.str' h1 | obtain ⟨_, rfl⟩ := VR.int' h1 | obtain rfl := VR.ref' h1 | obtain rfl := VR.con' h1 | obtain ⟨_, rfl, _⟩ := VR.bm' h1 | obtain ⟨rfl, _⟩ := VR.fz' h1 | obtain rfl := VR.bool' h1 | obtain rfl := VR.none' h1 | cases h1)
  obtain ⟨xs, vs, n, e1, e2, e3, h⟩ := r.list h
  obtain ⟨ys, us, n', f1, f2, f3, hz, h⟩ := r.list h
  have hz' : vs.toArray.size + us.toArray.size ≤ sizeLine := by simp only [List.size_toArray]; refine rl e2.len (rl f2.len ?_); exact Nat.le_trans hz szB_line
  refine call_meets PySem.F.slot_list_extend ⟨_, e3, rfl⟩ PySem.F.entry_list_extend (PySem.F.args_list_extend_2 _ _) (AutoSeq1.list_extend_list_list_0 a vs.toArray n b us.toArray n' (extend_door hz') (Nat.le_trans (Nat.le_add_right _ _) hz') (Nat.le_succ_of_le hz')) ⟨e3, f3, ?_⟩
  have e : Obj.mapSeq (fun x => x ++ us.toArray) (listO vs n) = listO (vs ++ us) (if (vs.toArray ++ us.toArray).size == vs.toArray.size then n else n + 1) := by
    refine (?_ : (⟨_, _, _, _⟩ : Obj) = _)
    simp
  refine ⟨R, .rfl, .none, _, r.put (s' := { s with heap := s.heap.update a (Obj.mapSeq fun x => x ++ us.toArray) }) e1 (Heap.SameBut.update ..) (Heap.get?_update_self _ e3 (by refine rg e ?_; rfl)) (by refine rg e ?_; exact .list (e2.append f2)) rfl rfl, .none, h⟩
theorem Et.between {Q : Bool → St → Prop} {l r1 r2 : Expr} {pos : Pos} {whole : Sem Value} (hm : lastMarks [.LtE, .Lt] [r1, r2] = false)
    (h : Ev C (eval l C.env) st fun a st1 => Ev C (eval r1 C.env) st1 fun b st2 => match a, b with
      | .int _ i, .int _ j => (i ≤ j → Ev C (eval r2 C.env) st2 fun c st3 => match c with | .int _ k => (j < k → Q true st3) ∧ (¬ j < k → Q false st3) | _ => False) ∧ (¬ i ≤ j → Q false st2)
      | _, _ => False) : Et C (isTrue (.Compare l [.LtE, .Lt] [r1, r2] pos) C.env whole) st Q := by
  intro R s r
  refine isTrue_chain (wpAny_mono (h R s r) ?_ fun _ _ e => e) hm
  rintro v s1 ⟨R1, g1, a, st1, r1', hv, h1⟩
  refine test_link (wpAny_mono (h1 R1 s1 r1') ?_ fun _ _ e => e)
  rintro w s2 ⟨R2, g2, b, st2, r2', hw, h2⟩
  induction hv <;> first | exact h2.elim | skip
  induction hw <;> first | exact h2.elim | skip
  rename_i i _ _ j _
  refine le_int ?_
  refine wpAny_truthy_bool ?_
  by_cases q : i ≤ j
  · refine rg (decide_eq_true q) (rg (if_pos rfl) ?_)
    refine test_last (wpAny_mono (h2.1 q R2 s2 r2') ?_ fun _ _ e => e)
    rintro u s3 ⟨R3, g3, c, st3, r3', hu, h3⟩
    induction hu <;> first | exact h3.elim | skip
    refine lt_int ?_
    refine wpAny_truthy_bool ?_
    rename_i k _
    refine ⟨R3, g1.trans (g2.trans g3), st3, r3', ?_⟩
    by_cases q' : j < k
    · refine rg (decide_eq_true q') ?_; exact h3.1 q'
    · refine rg (decide_eq_false q') ?_; exact h3.2 q'
  · refine rg (decide_eq_false q) (rg (if_neg (by decide)) ?_)
    exact ⟨R2, g1.trans g2, st2, r2', h2.2 q⟩
/-! repeated text, powers of two -/
noncomputable def rep (n : Nat) (x : List Nat) : List Nat := (List.replicate n x).flatten
theorem mul_rep (x : List Nat) (n : Nat) : Txt.mul ⟨x.toArray⟩ (n : Int) = ⟨(rep n x).toArray⟩ := by
  have key : ∀ (m : Nat) (acc : List Nat), (List.replicate m x.toArray).foldl (· ++ ·) acc.toArray = (acc ++ rep m x).toArray := by
    intro m
    induction m with
    | zero => intro acc; simp [rep]
    | succ m ih =>
      intro acc
      refine rg List.replicate_succ (rg List.foldl_cons ?_)
      have : acc.toArray ++ x.toArray = (acc ++ x).toArray := by simp
      rw [this, ih]
      simp [rep, List.replicate_succ]
  unfold Txt.mul
  by_cases h : (n : Int) < 1
  · refine rg (if_pos h) ?_
    have : n = 0 := by lia
    subst this
    rfl
  · refine rg (if_neg h) ?_
    by_cases h2 : ((n : Int) == 1 || (⟨x.toArray⟩ : Str).length == 0) = true
    · refine rg (if_pos h2) ?_
      simp only [Bool.or_eq_true, beq_iff_eq] at h2
      rcases h2 with h2 | h2
      · have : n = 1 := by lia
        subst this
        simp [rep]
      · rw [str_len] at h2
        have : x = [] := List.length_eq_zero_iff.mp h2
        subst this
        simp [rep]
    · refine rg (if_neg h2) ?_
      have := key n []
      simp only [List.nil_append, Int.toNat_natCast] at this ⊢
      exact rl this rfl
theorem E2.rep {c d : Bool} {x : List Nat} {n : Nat} (hn : n ≤ 1000) (hx : x.length ≤ 1000) (h : Q (.str false (Mine.rep n x)) st) : E2 C (binaryOp .Mult) (.str c x) (.int d (n : Int)) st Q := by
  intro R s v w r hv hw
  (first | obtain ⟨_, rfl⟩ := VR.str' hv | obtain ⟨_, rfl⟩ := VR.int' hv | obtain rfl := VR.ref' hv | obtain rfl := VR.con' hv | obtain ⟨_, rfl, _⟩ := VR.bm' hv | obtain ⟨rfl, _⟩ := VR.fz' hv | obtain rfl := VR.bool' hv | obtain rfl := VR.none' hv | cases hv); (first | obtain ⟨_, rfl⟩ := VR.str' hw | obtain ⟨_, rfl⟩ := VR.int' hw | obtain rfl := VR.ref' hw | obtain rfl := VR.con' hw | obtain ⟨_, rfl, _⟩ := VR.bm' hw | obtain ⟨rfl, _⟩ := VR.fz' hw | obtain rfl := VR.bool' hw | obtain rfl := VR.none' hw | cases hw)
  refine SB.mul ⟨?_, ?_, ?_⟩ fun t' k => ?_
  · refine rg (decide_eq_false (by lia)) (rg (decide_eq_false (by lia)) ?_); rfl
  · intro h1 _
    refine rg (str_len ..) ?_
    have : (1000 : Int) ≤ (2 ^ 63 - 1) / (n : Int) := Int.le_ediv_of_mul_le (by lia) (by lia)
    lia
  · intro _ _
    refine rg (str_len ..) ?_
    unfold Builtin.Str.tooLong
    have : x.length * (n : Int).toNat ≤ 1000 * 1000 := Nat.mul_le_mul hx (by lia)
    refine rg sizeLine_eq ?_
    exact decide_eq_false (by lia)
  · refine rg (mul_rep ..) ?_
    exact ⟨R, .rfl, _, st, r.toks _, .str, h⟩
theorem E2.pow2 {c d : Bool} {n : Nat} (hn : n ≤ 4) (h : Q (.int false ((2 ^ n : Nat) : Int)) st) : E2 C (binaryOp .Pow) (.int c 2) (.int d (n : Int)) st Q := by
  intro R s v w r hv hw
  (first | obtain ⟨_, rfl⟩ := VR.str' hv | obtain ⟨_, rfl⟩ := VR.int' hv | obtain rfl := VR.ref' hv | obtain rfl := VR.con' hv | obtain ⟨_, rfl, _⟩ := VR.bm' hv | obtain ⟨rfl, _⟩ := VR.fz' hv | obtain rfl := VR.bool' hv | obtain rfl := VR.none' hv | cases hv); (first | obtain ⟨_, rfl⟩ := VR.str' hw | obtain ⟨_, rfl⟩ := VR.int' hw | obtain rfl := VR.ref' hw | obtain rfl := VR.con' hw | obtain ⟨_, rfl, _⟩ := VR.bm' hw | obtain ⟨rfl, _⟩ := VR.fz' hw | obtain rfl := VR.bool' hw | obtain rfl := VR.none' hw | cases hw)
  rcases n with _ | _ | _ | _ | _ | n
  rotate_right
  · exact absurd hn (Nat.not_le_of_lt (Nat.le_add_left 5 n))
  · exact AutoIntOps.pow_0 (by decide) (by decide) ⟨R, .rfl, _, st, r.toks _, .int, h⟩
  all_goals exact AutoIntOps.pow_4 (by decide) (by decide) (by decide) (by decide) (by decide +kernel) ⟨R, .rfl, _, st, r.toks _, .int, h⟩
end
end Mine
end
end

section
open PySem PySem.W PySem.Calls PyProof.Rows
noncomputable section
set_option Elab.async false
set_option maxRecDepth 100000
set_option autoImplicit false
set_option linter.unusedVariables false
namespace Mine
/-! a call of a function with one cell variable, its first parameter -/
/-- the callee's context is good, and its first state -/
theorem enterC {C : Cx} (ok : C.Ok) {st : St} {R : Frz} {s : Shared} {fk : List Nat} {ft : List Cell} {h₁ : Heap} {tk : Nat} {A : Around} {name : Str} {scope : Scope} {fa : Addr} {cd : Value} {loc : List (Str × SV)} {n : Nat} {cn : Str} {ca : Addr} {co : Obj} {csv : SV} {cval : Value} (hc1 : h₁.get? ca = some co) (hc2 : co.data = .cell (some cval)) (hc3 : VR R csv cval) (hc4 : s.heap.objs.size < ca)
    (r : Rel C R st s) (hfk : fk.Nodup) (hft : fts st.mem fk = some ft) (hA : A.depth < 900) (hAh : A.handled = C.A.handled) (hAf : A.frames = C.A.frames.map (envX name scope s.heap.objs.size fa cd [(cn, ca)] :: ·)) (hk : scope.kind = .function)
    {mm : Str → Option Value} (hns : h₁.Ns s.heap.objs.size mm) (hk₁ : ∀ b o, s.heap.get? b = some o → h₁.get? b = some o)
    (hlz : ∀ x v, lk loc x = some v → ∃ val, mm x = some val ∧ VR R v val) :
    (callee C A (hideAll s.heap (hid C ft)) s.heap.objs.size name scope fa cd [(cn, ca)] [(cn, csv)] (banOf C st ft) (outNow C s)).Ok ∧
      Rel (callee C A (hideAll s.heap (hid C ft)) s.heap.objs.size name scope fa cd [(cn, ca)] [(cn, csv)] (banOf C st ft) (outNow C s)) (fun b x => R b x ∨ (b = ca ∧ x = co)) ⟨loc, rk 0 ft, n⟩ { s with heap := h₁, toks := tk } := by
  obtain ⟨m, F, hl⟩ := r.fr
  have ftm := fts_mem hft
  have nh : ∀ b o, C.h₀.get? b = some o → b ∉ ft.map (·.a) := fun b o e q => by
    obtain ⟨c, hc, q⟩ := List.mem_map.mp q
    obtain ⟨_, _, _, _, z⟩ := r.mem c (ftm c hc).1
    replace z := e ▸ q ▸ z; exact snE z
  have up : ∀ b o, C.h₀.get? b = some o → (hideAll s.heap (hid C ft)).get? b = some o := fun b o e => hideAll_get _ (F.keep b o e) fun q => (List.mem_append.mp q).elim (r.baseIn ok e) (nh b o e)
  have lt : ∀ c ∈ st.mem, c.a < s.heap.objs.size := fun c hc => let ⟨_, _, q, _⟩ := r.mem c hc; Heap.lt_size q
  have onow : ∀ p ∈ outNow C s, p.1 ∈ C.L :: C.outs.map (·.1) ∧ s.heap.get? p.1 = some p.2 := fun p hp => by
    unfold outNow at hp
    obtain ⟨a, ha, rfl⟩ := List.mem_map.mp hp
    obtain ⟨o, ho, _⟩ := r.outAt ha
    exact ⟨ha, by refine (?_ : _ = some ((s.heap.get? a).getD default)); refine rg ho ?_; rfl⟩
  have nofld : ∀ a o, a ∈ C.L :: C.outs.map (·.1) → s.heap.get? a = some o → ∀ vs, o.data ≠ .fields vs := fun a o ha ho vs q => by
    rcases List.mem_cons.mp ha with rfl | ha
    · obtain ⟨oL, es, ep, e1, e2, _⟩ := F.ns
      replace e1 := ho ▸ e1; obtain rfl := Option.some.inj e1
      replace q := e2 ▸ q; cases q
    · obtain ⟨p, hp, rfl⟩ := List.mem_map.mp ha
      obtain ⟨_, _, sl, e⟩ := r.outs p hp
      replace e := ho ▸ e; obtain rfl := Option.some.inj e
      exact (ok.ohide p hp).2.2 vs q
  constructor
  · obtain ⟨p, loose, mg, mb, T⟩ := ok.top
    refine ⟨ok.X.keeps up, hk, ok.glb, ⟨p, loose, mg, mb, T.keeps up⟩, hAh.trans ok.hh, ok.lim.keeps up, ?_, fun b hb => ?_, ?_, ?_, fun e he => ?_, fun p hp => ?_⟩
    · refine (?_ : A.depth < 900)
      exact hA
    · refine (?_ : b < (hideAll s.heap _).objs.size)
      refine rg (hideAll_size ..) ?_
      rcases List.mem_cons.mp hb with rfl | hb
      · exact r.lt
      · rcases List.mem_append.mp hb with hb | hb
        · exact Nat.lt_of_lt_of_le (ok.ban b hb) (Nat.le_of_lt (Nat.lt_of_le_of_lt F.above r.lt))
        · obtain ⟨c, hc, rfl⟩ := List.mem_map.mp (List.mem_filter.mp hb).1
          exact lt c hc
    · refine (?_ : A.frames = _)
      refine rg hAf (rg ok.frames ?_); rfl
    · refine (?_ : (C.env :: C.oenv).map (·.frame) = (outNow C s).map fun p => some p.1)
      unfold outNow
      refine rg List.map_map (rg List.map_cons (rg List.map_cons (rg ok.onames (rg List.map_map ?_))))
      rfl
    · rcases List.mem_cons.mp he with rfl | he
      · refine (?_ : C.scope.kind ≠ _)
        refine rg ok.hk ?_; decide
      · exact ok.okind e he
    · obtain ⟨h1, h2⟩ := onow p hp
      refine ⟨hideAll_none _ (List.mem_append_left _ h1), ?_, nofld _ _ h1 h2⟩
      rcases List.mem_cons.mp h1 with q | q
      · refine rg q ?_; exact .head _
      · obtain ⟨p', hp', e⟩ := List.mem_map.mp q
        exact .tail _ (List.mem_append_left _ (e ▸ (ok.ohide p' hp').2.1))
  · have gr : Grows R (fun b x => R b x ∨ (b = ca ∧ x = co)) := fun _ _ h => .inl h
    refine ⟨⟨_, ⟨hns, fun b o e => hk₁ b o (of_hideAll _ e), Nat.le_of_eq (hideAll_size _ _)⟩, fun x v h => let ⟨val, a, b⟩ := hlz x v h; ⟨val, a, b.grows gr⟩⟩, fun c hc => ?_, fun a o h => ?_, fun a o h q => ?_, ?_, fun x v h => ?_, r.gens, r.os, fun p hp => ?_⟩
    · obtain ⟨d, hd, q1, q2⟩ := rk_mem hc
      obtain ⟨o, a1, a2, a3⟩ := r.mem d (ftm d hd).1
      refine rg q1 (rg q2 ?_)
      exact ⟨o, a1.grows gr, hk₁ _ _ a2, Nat.ne_of_lt (Heap.lt_size a2), hideAll_none _ (List.mem_append_right _ (List.mem_map_of_mem hd))⟩
    · rcases h with h | ⟨rfl, rfl⟩
      · obtain ⟨b1, b2, b3⟩ := r.frz a o h
        refine ⟨hk₁ _ _ b1, Nat.ne_of_lt (Heap.lt_size b1), fun c hc q => ?_⟩
        obtain ⟨d, hd, q1, _⟩ := rk_mem hc
        exact b3 d (ftm d hd).1 (q1 ▸ q)
      · refine ⟨hc1, Nat.ne_of_gt hc4, fun c hc q => ?_⟩
        obtain ⟨d, hd, q1, _⟩ := rk_mem hc
        have := lt d (ftm d hd).1
        replace this := q ▸ (Eq.symm q1) ▸ this
        exact absurd this (Nat.not_lt.mpr (Nat.le_of_lt hc4))
    · rcases h with h | ⟨rfl, rfl⟩
      · obtain ⟨b1, b2, b3⟩ := r.frz a o h
        rcases List.mem_cons.mp q with q | q
        · exact b2 q
        · rcases List.mem_append.mp q with q | q
          · exact r.ban a o h q
          · obtain ⟨c, hc, e⟩ := List.mem_map.mp (List.mem_filter.mp q).1
            exact b3 c hc e
      · have : a < s.heap.objs.size := by
          rcases List.mem_cons.mp q with q | q
          · refine rg q ?_; exact r.lt
          · rcases List.mem_append.mp q with q | q
            · exact Nat.lt_of_lt_of_le (ok.ban a q) (Nat.le_of_lt (Nat.lt_of_le_of_lt F.above r.lt))
            · obtain ⟨c, hc, e⟩ := List.mem_map.mp (List.mem_filter.mp q).1
              exact e ▸ lt c hc
        exact absurd this (Nat.not_lt.mpr (Nat.le_of_lt hc4))
    · refine (?_ : ((rk 0 ft).map (·.a)).Nodup)
      refine rg (rk_map ..) ?_
      exact fts_nodup r.nd hft hfk
    · have h : lk [(cn, csv)] x = some v := h
      rw [lk_cons] at h
      split at h
      · rename_i q
        obtain rfl := Option.some.inj h
        have := eqS_iff.mp q
        subst this
        exact ⟨ca, co, cval, by refine (?_ : List.lookup cn [(cn, ca)] = _); simp, .inr ⟨rfl, rfl⟩, hc2, hc3.grows gr⟩
      · exact nsE h
    · obtain ⟨h1, h2⟩ := onow p hp
      refine ⟨Nat.ne_of_lt (Heap.lt_size h2), fun c hc q => ?_, p.2.slots, hk₁ _ _ h2⟩
      obtain ⟨d, hd, q1, _⟩ := rk_mem hc
      exact r.notOut (ftm d hd).1 (by refine rl q1 (rg q ?_); exact h1)

theorem Cu.cell2 {C : Cx} (ok : C.Ok) {A0 : Around} (hAh : SameA A0 C.A) {st : St} {Q : SV → St → Prop} {a : Addr} {x0 x1 y0 y1 : SV} {fk : List Nat} {ft : List Cell} {cn tn : Str}
    {oc : Value} {od : Option Addr} {osl : Array (Option Value)} {name qual : Str} {params : Arguments} {body : List Stmt} {scope : Scope} {dV kV doc pm cdv ct : Value} {an : Option Addr}
    (ho : C.K.lookup a = some ⟨oc, od, .func (fnOf name qual params body scope dV kV doc pm an cdv ct), osl⟩) (hcd : codeIn C.K cdv qual = true) (hroom : A0.depth + 1 < 900)
    (hfk : fk.Nodup) (hft : fts st.mem fk = some ft) (hbind : ∀ v w : Value, bindArgs (fnOf name qual params body scope dV kV doc pm an cdv ct) ⟨[v, w], []⟩ = (pure [(cn, v), (tn, w)] : Sem (List (Str × Value))))
    (hy0 : SVle x0 y0) (hy1 : SVle x1 y1)
    (hcells : ∀ n, cellsFrom n scope.names [] = [(cn, n)]) (hkc : scope.names.lookup cn = some .cell) (hkt : scope.names.lookup tn = some .local)
    (hbody : ∀ A g L c ban outs, (callee C A g L qual scope a cdv [(cn, c)] [(cn, y0)] ban outs).Ok → A.depth = A0.depth + 1 →
      Es (callee C A g L qual scope a cdv [(cn, c)] [(cn, y0)] ban outs) (execs body (callee C A g L qual scope a cdv [(cn, c)] [(cn, y0)] ban outs).env) ⟨[(tn, y1)], rk 0 ft, ft.length⟩ (Fin C st fk ft Q))
    (hco : scope.isCoroutine = false := by rfl) (hgen : scope.isGenerator = false := by rfl) (hk : scope.kind = .function := by rfl) : Cu C A0 (.con (.ref a)) [x0, x1] [] st Q := by
  intro R s v ws ks r hf hw hkw
  obtain ⟨v0, t, rfl, hv0, hw⟩ := hw.uncons
  obtain ⟨v1, t, rfl, hv1, hw⟩ := hw.uncons
  have := hw.unnil; subst this
  have := hkw.unnil; subst this
  (first | obtain ⟨_, rfl⟩ := VR.str' hf | obtain ⟨_, rfl⟩ := VR.int' hf | obtain rfl := VR.ref' hf | obtain rfl := VR.con' hf | obtain ⟨_, rfl, _⟩ := VR.bm' hf | obtain ⟨rfl, _⟩ := VR.fz' hf | obtain rfl := VR.bool' hf | obtain rfl := VR.none' hf | cases hf)
  obtain ⟨m, F, hl⟩ := r.fr
  have X := ok.X.keeps F.keep
  refine codeAny_call_function (fd := fnOf name qual params body scope dV kV doc pm an cdv ct) (body := body) (by have : recursionLimit = 1000 := rfl; lia) (X _ _ ho) rfl hco hgen rfl (codeRec_of X hcd) ?_
  refine wpAny_of_eq (hbind v0 v1) ?_
  refine wpAny_newFunctionEnv_cells hk (fun y hy => ?_) fun env' he s' x => ?_
  · rcases List.mem_cons.mp hy with rfl | hy
    · refine .inr ⟨hkc, ?_⟩
      refine rg (hcells ..) ?_; simp
    · refine rg (List.mem_singleton.mp hy) ?_; exact .inl hkt
  rw [hcells] at he
  subst he
  obtain ⟨h₁, tk, rfl, _⟩ := x.done
  have hk₁ : ∀ b o, s.heap.get? b = some o → h₁.get? b = some o := x.toInCall.keep
  have hkinds : ∀ z, Env.kindOf (newEnv scope s.heap.objs.size (fnOf name qual params body scope dV kV doc pm an cdv ct).globals [(cn, s.heap.objs.size + 1)] ((fnOf name qual params body scope dV kV doc pm an cdv ct).qualname ++ ".<locals>.") (some a) (fnOf name qual params body scope dV kV doc pm an cdv ct).code none (fnOf name qual params body scope dV kV doc pm an cdv ct).builtins) z = scope.names.lookup z := fun z => rfl
  obtain ⟨co, c1, c2⟩ := x.cell cn (s.heap.objs.size + 1) (by refine (?_ : List.lookup cn [(cn, _)] = _); simp)
  have hcm : bindC (Env.kindOf (newEnv scope s.heap.objs.size (fnOf name qual params body scope dV kV doc pm an cdv ct).globals [(cn, s.heap.objs.size + 1)] ((fnOf name qual params body scope dV kV doc pm an cdv ct).qualname ++ ".<locals>.") (some a) (fnOf name qual params body scope dV kV doc pm an cdv ct).code none (fnOf name qual params body scope dV kV doc pm an cdv ct).builtins)) [(cn, v0), (tn, v1)] (fun _ => none) cn = some v0 := by
    unfold bindC
    refine rg (hkinds ..) (rg (hkc ..) (rg (if_neg (by decide)) ?_))
    unfold bindC
    refine rg (hkinds ..) (rg (hkt ..) (rg (if_pos rfl) ?_))
    unfold bindC
    simp
  replace c2 := hcm ▸ c2
  have hlm : ∀ z v, lk [(tn, y1)] z = some v → ∃ val, bindL (Env.kindOf (newEnv scope s.heap.objs.size (fnOf name qual params body scope dV kV doc pm an cdv ct).globals [(cn, s.heap.objs.size + 1)] ((fnOf name qual params body scope dV kV doc pm an cdv ct).qualname ++ ".<locals>.") (some a) (fnOf name qual params body scope dV kV doc pm an cdv ct).code none (fnOf name qual params body scope dV kV doc pm an cdv ct).builtins)) [(cn, v0), (tn, v1)] (fun _ => none) z = some val ∧ VR R v val := by
    intro z v hz
    rw [lk_cons] at hz
    split at hz
    · rename_i q
      obtain rfl := Option.some.inj hz
      have := eqS_iff.mp q
      subst this
      refine ⟨v1, ?_, hy1 _ _ hv1⟩
      unfold bindL
      refine rg (hkinds ..) (rg (hkc ..) (rg (if_neg (by decide)) ?_))
      unfold bindL
      refine rg (hkinds ..) (rg (hkt ..) (rg (if_pos rfl) ?_))
      unfold bindL
      simp
    · exact nsE hz
  obtain ⟨ok', r'⟩ := enterC (A := A0.deeper (envX qual scope s.heap.objs.size a cdv [(cn, s.heap.objs.size + 1)])) (name := qual) (scope := scope) (fa := a) (cd := cdv) (n := ft.length) (tk := tk) (cn := cn) ok c1 c2 (hy0 _ _ hv0) (Nat.lt_succ_self _) r hfk hft (by refine (?_ : A0.depth + 1 < 900); exact hroom) hAh.hh (by refine (?_ : A0.frames.map _ = _); exact rg hAh.fr rfl) hk x.toInCall.ns hk₁ hlm
  refine ⟨(ok.lim.keeps F.keep).keeps hk₁, codeAny_func ?_⟩
  refine wpAny_mono (hbody _ _ _ _ _ _ ok' rfl _ _ r') ?_ fun _ _ e => e.elim
  rintro f s2 ⟨R2, g2, sf, st2, r2, hf, nw, ft2, v, q1, q2, q3, q4⟩
  have g2' : Grows R R2 := fun b o h => g2 b o (.inl h)
  refine ⟨R2, g2', v, _, back ok r g2' r2 rfl rfl hfk hft rfl (fun b hb => ?_) q1 q2, ?_, q4⟩
  · rcases hb with rfl | hb | ⟨h1, h2⟩
    · exact .head _
    · exact .tail _ (List.mem_append_left _ hb)
    · refine .tail _ (List.mem_append_right _ (List.mem_filter.mpr ⟨h1, ?_⟩))
      simpa using h2
  · refine q3 R2 _ ?_
    induction hf with
    | ret h => exact h
    | _ => exact .none
end Mine
end
end

section
open PySem PySem.W PySem.Calls PyProof.Rows
noncomputable section
set_option Elab.async false
set_option maxRecDepth 100000
set_option autoImplicit false
set_option linter.unusedVariables false
namespace Mine
/-- the beginning of a list that stays as it is -/
theorem Ev.sliceFz {C : Cx} {st : St} {value hi : Expr} {p pos : Pos} {Q : SV → St → Prop}
    (h : Ev C (eval value C.env) st fun a st₁ => Ev C (eval hi C.env) st₁ fun u st₂ => match a, u with
      | .fz b o, .int _ j => ∃ xs vs n, o = listO vs n ∧ (∀ R, VRs R xs vs) ∧ plainFn value = true ∧ 0 ≤ j ∧ xs.length ≤ szB ∧ ∀ a, newL st₂ (xs.take j.toNat) Q a
      | _, _ => False) : Ev C (eval (.Subscript value (.Slice none (some hi) none p) pos) C.env) st Q :=
  Ev.sliceG (lo := none) (hi := some hi) (h.mono fun a st₁ q => Ev.mono q fun u st₂ q => by
    intro R s v vl vu r hv hl hu
    induction a using SV.casesOn <;> first | exact False.elim q | skip
    induction u using SV.casesOn <;> first | exact False.elim q | skip
    obtain ⟨xs, vs, n, rfl, e2, hp, h0, hz, hq⟩ := q
    obtain ⟨rfl, hb⟩ := hv.fz'
    obtain rfl := hl.none'
    obtain ⟨_, rfl⟩ := hu.int'
    exact slList r (r.frz _ _ hb).1 (e2 R) (fun _ _ => rfl) hp h0 hz hq)
end Mine
end
end

section
open PySem PySem.W PySem.Calls PyProof.Rows
noncomputable section
set_option Elab.async false
set_option maxRecDepth 100000
set_option autoImplicit false
set_option linter.unusedVariables false
set_option maxHeartbeats 800000
namespace Mine
/-! _law_items -/
noncomputable def five (ns : List Int) : List Int := (ns.take 5).map fun i => i.fmod 100000000
noncomputable def nums (ns : List Int) : List Int := match Nat.ble 2 (five ns).length with | true => five ns | false => five ns ++ [9, 10]
noncomputable abbrev intS (l : List Int) : List SV := l.map (.int false)
section
variable {prog : Program} {w : World} {A : Around} {g : Heap} {L : Addr} {fa : Addr} {name : Str} {cd : Value} {os : OsState} {ban : List Addr} {outs : List (Addr × Obj)} {oenv : List Env}
theorem compSpec1 {scope : Scope} {p2 : Pos} {k : Nat} {C : Cx} (ok : C.Ok) {v : SV} {st1 : St} {xs : List Int} {x : Str} {np kp : Pos} (hx : scope.names.lookup x = some .local)  (hsrc : Src C v st1 (intS xs)) (hl : xs.length ≤ szB) (hk : scope.kind = .function) (hd : (x == ("__debug__" : Str)) = false) :
    CompSpec C scope [] x [] (.BinOp (.Name x np) .Mod (.Constant (.int 100000000) k kp) p2) (fun _ => true) (fun v y => ∀ i t, v = .int i t → ∃ t', y = .int (i.fmod 100000000) t') v st1 (intS (xs.map fun i => i.fmod 100000000)) := by
  refine ⟨_, hsrc, by simpa using hl, fun R s1 r1 => ⟨fun D v s₃ m₃ E' hy hn hm hk3 => ?_, fun D v s₃ m₃ E' hy hp hn hm hk3 => ?_⟩, fun R vs zs hv hF => ?_⟩
  · exact wpAny_pure ⟨rfl, s₃.heap, s₃.toks, rfl, fun b o e => e⟩
  · obtain ⟨y, hy, hvy⟩ := hy
    obtain ⟨i, _, rfl⟩ := List.mem_map.mp hy
    (first | obtain ⟨_, rfl⟩ := VR.str' hvy | obtain ⟨_, rfl⟩ := VR.int' hvy | obtain rfl := VR.ref' hvy | obtain rfl := VR.con' hvy | obtain ⟨_, rfl, _⟩ := VR.bm' hvy | obtain ⟨rfl, _⟩ := VR.fz' hvy | obtain rfl := VR.bool' hvy | obtain rfl := VR.none' hvy | cases hvy)
    rename_i t
    refine wpAny_BinOp (wpAny_Name (wpAny_loadName_local hk (lookup_relabel_local hx) hn hm ?_) hd)
    refine wpAny_Constant_int ?_
    refine mod_int (by decide) ⟨fun i' t' q => ?_, s₃.heap, _, rfl, fun b o e => e⟩
    cases q; exact ⟨_, rfl⟩
  · replace hF : Paired (fun v y => ∀ i t, v = .int i t → ∃ t', y = .int (i.fmod 100000000) t') vs zs := by
      have e : vs.filter (fun _ => true) = vs := List.filter_eq_self.mpr fun _ _ => rfl
      rwa [e] at hF
    clear hsrc hl
    induction xs generalizing vs zs with
    | nil =>
      have := hv.unnil; subst this
      cases hF; exact .nil
    | cons i xs ih =>
      obtain ⟨v, t, rfl, h1, h2⟩ := hv.uncons
      cases h1
      cases hF with
      | cons h3 h4 =>
        obtain ⟨t', rfl⟩ := h3 _ _ rfl
        exact .cons .int (ih _ _ h2 h4)
end
end Mine
namespace Mine
theorem VRs.weak {R : Frz} {xs ys : List SV} {vs : List Value} (h : VRs R xs vs) (hl : xs.length = ys.length) (hw : ∀ (i : Nat) x y, xs[i]? = some x → ys[i]? = some y → SVle x y) : VRs R ys vs := ⟨hl ▸ h.len, fun i y v a b => by
  have hi : i < xs.length := by refine rg hl ?_; exact (List.getElem?_eq_some_iff.mp a).1
  exact hw i xs[i] y (List.getElem?_eq_getElem hi) a R v (h.at_ i _ v (List.getElem?_eq_getElem hi) b)⟩
section
variable {prog : Program} {w : World} {A : Around} {g : Heap} {L : Addr} {fa : Addr} {name : Str} {cd : Value} {os : OsState} {ban : List Addr} {outs : List (Addr × Obj)} {oenv : List Env} {a : Addr} {vs : List Value}
theorem wk {l : List Int} {i : Nat} {x y : SV} (hx : (intS l ++ [.int true 9, .int true 10])[i]? = some x) (hy : (intS (l ++ [9, 10]))[i]? = some y) : SVle x y := by
  have e : intS (l ++ [9, 10]) = intS l ++ [.int false 9, .int false 10] := by simp
  replace hy := e ▸ hy
  rw [List.getElem?_append] at hx hy
  split at hx
  · rename_i h
    replace hy := (if_pos h) ▸ hy
    replace hy := hx ▸ hy; obtain rfl := Option.some.inj hy; exact .rfl
  · rename_i h
    replace hy := (if_neg h) ▸ hy
    generalize i - _ = j at hx hy
    match j with
    | 0 => simp at hx hy; subst hx; subst hy; exact SVle.int rfl
    | 1 => simp at hx hy; subst hx; subst hy; exact SVle.int rfl
    | j + 2 => simp at hx
theorem items_one {ns : List Int} (hv : ∀ R, VRs R (intS ns) vs) {Q : SF → St → Prop} (hn : ns.length ≤ 63) (ok : (cX prog w A g L name (fScope (stAt 37)) fa cd [] [] os ban outs oenv).Ok)
    (hQ : ∀ D, Es (cX prog w A g L name (fScope (stAt 37)) fa cd [] [] os ban outs oenv) (execs ((fBody (stAt 37)).drop 2) (Cx.env (cX prog w A g L name (fScope (stAt 37)) fa cd [] [] os ban outs oenv))) ⟨[("script", .fz a (listO vs 0)), ("numbers", .ref 1 D)], [⟨1, D, .list (intS (nums ns))⟩], 5⟩ Q) :
    Es (cX prog w A g L name (fScope (stAt 37)) fa cd [] [] os ban outs oenv) (execs (fBody (stAt 37)) (Cx.env (cX prog w A g L name (fScope (stAt 37)) fa cd [] [] os ban outs oenv))) ⟨[("script", .fz a (listO vs 0))], [], 0⟩ Q := by
  refine Es.cut ok 30 2 (fun st => ∃ D, st = ⟨[("script", .fz a (listO vs 0)), ("numbers", .ref 1 D)], [⟨1, D, .list (intS (nums ns))⟩], 5⟩) ?_ ?_
  · refine Es.assignComp ok (cl := []) (fun _ => true) (fun v y => ∀ i t, v = .int i t → ∃ t', y = .int (i.fmod 100000000) t') rfl (closureFor_none (by decide +kernel)) (by decide +kernel) rfl (by decide +kernel) rfl rfl (by intro _; rfl) ?_
    refine Ev.sliceFz ?_
    refine (ev_ok ok 30).e _ _ _ ?_
    refine (ev_ok ok 30).e _ _ _ ?_
    refine ⟨intS ns, vs, 0, rfl, hv, rfl, by decide, ?_, fun l => ?_⟩
    · simp only [List.length_map]; unfold szB; lia
    refine ⟨_, compSpec1 (xs := ns.take 5) ok rfl (Src.list ok ⟨rfl, List.map_take.symm⟩) ?_ rfl rfl, fun D => ?_⟩
    · refine rg List.length_take ?_; unfold szB; lia
    refine ⟨rfl, Cl.len_list ⟨rfl, ?_, ?_⟩⟩
    · simp only [List.length_map, List.length_take]; unfold szB; lia
    refine ⟨fun q => ?_, fun q => ?_⟩
    · refine fun l2 => ⟨rfl, rfl, ?_, fun l3 => ?_⟩
      · simp only [List.length_map, List.length_take, List.length_cons, List.length_nil]; unfold szB; lia
      refine ⟨_, Le.mk (.cons .rfl (.cons (fun R y h => by cases h; exact .ref) .nil)) (.cons (fun R y h => ?_) (.skip (.skip (.skip .nil)))), l3, rfl⟩
      have hq : nums ns = five ns ++ [9, 10] := by
        have q := of_decide_eq_true q
        simp only [List.length_map] at q
        unfold nums
        cases e : Nat.ble 2 (five ns).length with
        | false => rfl
        | true =>
          have := Nat.le_of_ble_eq_true e
          simp only [five, List.length_map] at this
          lia
      refine rg hq ?_
      cases h with
      | list hv => exact .list (hv.weak (by simp [five]) fun i x y hx hy => wk hx hy)
    · refine ⟨_, Le.mk (.cons .rfl (.cons (fun R y h => by cases h; exact .ref) .nil)) (.cons (fun R y h => ?_) (.skip .nil)), D, rfl⟩
      have hq : nums ns = five ns := by
        have q := of_decide_eq_false q
        simp only [List.length_map] at q
        unfold nums
        cases e : Nat.ble 2 (five ns).length with
        | true => rfl
        | false =>
          have : ¬ 2 ≤ (five ns).length := fun h => by replace e := (Nat.ble_eq_true_of_le h) ▸ e; exact tfE e
          simp only [five, List.length_map] at this
          lia
      refine rg hq ?_; exact h
  · rintro st ⟨D, rfl⟩
    with_reducible exact hQ D
end
end Mine
end
end

section
open PySem PySem.W PySem.Calls PyProof.Rows
noncomputable section
set_option Elab.async false
set_option maxRecDepth 100000
set_option autoImplicit false
set_option linter.unusedVariables false
set_option maxHeartbeats 800000
namespace Mine
noncomputable def pieces : List S := [[97], [63], [42], [46], [92], [32], [10], [13], [35], [10, 63], [13, 42]]
noncomputable def codeF (c : Int) : Int :=
  match anyI c [34, 39, 91] || (decide (55296 ≤ c) && decide (c < 57344)) with | true => 97 | false => c
noncomputable def codeOf (v : Int) : Int := codeF ((v.fdiv 12).fmod 1114112)
noncomputable def item (v : Int) : S := match decide (v.fmod 12 < 11) with
  | true => (pieces[(v.fmod 12).toNat]?).getD []
  | false => [(codeOf v).toNat]
noncomputable def itemsOf (l : List Int) : S := (l.map item).flatten
noncomputable abbrev chars (y : S) : List SV := y.map fun c => .str false [c]
section
variable {prog : Program} {w : World} {A : Around} {g : Heap} {L : Addr} {fa : Addr} {name : Str} {cd : Value} {os : OsState} {ban : List Addr} {outs : List (Addr × Obj)} {oenv : List Env} {a D : Addr} {sv : SV} {vs : List Value}
theorem compSpec2 {C : Cx} {scope : Scope} (ok : C.Ok) {st1 : St} {c : Bool} {y : S} {x : Str} {np : Pos} (hx : scope.names.lookup x = some .local) (hl : y.length ≤ szB) (hk : scope.kind = .function) (hd : (x == ("__debug__" : Str)) = false) :
    CompSpec C scope [] x [] (.Name x np) (fun _ => true) (fun v y => y = v) (.str c y) st1 (chars y) := by
  refine ⟨_, Src.str ok, by simpa using hl, fun R s1 r1 => ⟨fun D v s₃ m₃ E' hy hn hm hk3 => ?_, fun D v s₃ m₃ E' hy hp hn hm hk3 => ?_⟩, fun R vs zs hv hF => ?_⟩
  · exact wpAny_pure ⟨rfl, s₃.heap, s₃.toks, rfl, fun b o e => e⟩
  · exact wpAny_Name (wpAny_loadName_local hk (lookup_relabel_local hx) hn hm ⟨rfl, s₃.heap, _, rfl, fun b o e => e⟩) hd
  · have e : vs.filter (fun _ => true) = vs := List.filter_eq_self.mpr fun _ _ => rfl
    replace hF := e ▸ hF
    have : zs = vs := by
      clear e hv
      induction hF with
      | nil => rfl
      | cons h _ ih => exact rg h (rg ih rfl)
    refine rg this ?_; exact hv
theorem pieceAt {v : Int} (q : decide (v.fmod 12 < 11) = true) : ∃ y, itemAt (pieces.map (.str true)) (v.fmod 12) (.str true y) ∧ y.length ≤ 2 ∧ item v = y := by
  have h1 := of_decide_eq_true q
  have h0 : 0 ≤ v.fmod 12 := Int.fmod_nonneg_of_pos v (by decide)
  generalize hk : v.fmod 12 = k at h1 h0
  unfold item
  refine rg hk ?_
  clear hk q
  refine Below.ofInt (n := 11) (P := fun k => ∃ y, itemAt (pieces.map (.str true)) k (.str true y) ∧ y.length ≤ 2 ∧ (match decide (k < 11) with | true => (pieces[k.toNat]?).getD [] | false => [(codeOf v).toNat]) = y) ?_ h0 h1
  exact ⟨⟨_, .inl ⟨by decide, by decide, rfl⟩, by decide, rfl⟩, ⟨_, .inl ⟨by decide, by decide, rfl⟩, by decide, rfl⟩, ⟨_, .inl ⟨by decide, by decide, rfl⟩, by decide, rfl⟩, ⟨_, .inl ⟨by decide, by decide, rfl⟩, by decide, rfl⟩, ⟨_, .inl ⟨by decide, by decide, rfl⟩, by decide, rfl⟩, ⟨_, .inl ⟨by decide, by decide, rfl⟩, by decide, rfl⟩, ⟨_, .inl ⟨by decide, by decide, rfl⟩, by decide, rfl⟩, ⟨_, .inl ⟨by decide, by decide, rfl⟩, by decide, rfl⟩, ⟨_, .inl ⟨by decide, by decide, rfl⟩, by decide, rfl⟩, ⟨_, .inl ⟨by decide, by decide, rfl⟩, by decide, rfl⟩, ⟨_, .inl ⟨by decide, by decide, rfl⟩, by decide, rfl⟩, trivial⟩
theorem item_len (v : Int) : (item v).length ≤ 2 := by
  cases q : decide (v.fmod 12 < 11) with
  | true => obtain ⟨y, _, h, e⟩ := pieceAt q; refine rg e ?_; exact h
  | false => unfold item; refine rg q ?_; exact Nat.le_succ _
theorem itemsOf_len : ∀ l : List Int, (itemsOf l).length ≤ 2 * l.length
  | [] => Nat.le_refl _
  | v :: l => by
    have h1 := itemsOf_len l
    have h2 := item_len v
    refine (?_ : (item v ++ itemsOf l).length ≤ _)
    refine rg List.length_append (rg List.length_cons ?_)
    lia
theorem item_code {v : Int} {cd : Int} (q : decide (v.fmod 12 < 11) = false) (h : codeOf v = cd) : item v = [cd.toNat] := by
  unfold item; exact rg q (rg h rfl)
theorem code_bounds (v : Int) : 0 ≤ (v.fdiv 12).fmod 1114112 ∧ (v.fdiv 12).fmod 1114112 ≤ 1114111 := by
  have h0 : 0 ≤ (v.fdiv 12).fmod 1114112 := Int.fmod_nonneg_of_pos _ (by decide)
  have h1 : (v.fdiv 12).fmod 1114112 < 1114112 := Int.fmod_lt_of_pos _ (by decide)
  lia
theorem items_two {l : List Int} {Q : SF → St → Prop} (hn : l.length ≤ 10) (ok : (cX prog w A g L name (fScope (stAt 37)) fa cd [] [] os ban outs oenv).Ok)
    (hQ : ∀ P st, List.Sublist [(⟨3, P, .list (chars (itemsOf l))⟩ : Cell)] st.mem → Q (.ret (.ref 3 P)) st) :
    Es (cX prog w A g L name (fScope (stAt 37)) fa cd [] [] os ban outs oenv) (execs ((fBody (stAt 37)).drop 2) (Cx.env (cX prog w A g L name (fScope (stAt 37)) fa cd [] [] os ban outs oenv))) ⟨[("script", sv), ("numbers", .ref 1 D)], [⟨1, D, .list (intS l)⟩], 5⟩ Q := by
  with_reducible refine Es.cut ok 30 2 (fun st => ∃ aP aI, st = ⟨[("script", sv), ("numbers", .ref 1 D), ("pieces", .ref 2 aP), ("items", .ref 3 aI)], [⟨3, aI, .list []⟩, ⟨2, aP, .list (pieces.map (.str true))⟩, ⟨1, D, .list (intS l)⟩], 7⟩) ?_ ?_
  · refine fun aP => ?_
    refine fun aI => ?_
    exact ⟨_, Le.mk (.cons .rfl (.cons .rfl (.cons (fun R y h => by cases h; exact .ref) (.cons (fun R y h => by cases h; exact .ref) .nil)))) (.cons (fun _ _ h => h) (.cons (fun _ _ h => h) .rfl)), aP, aI, rfl⟩
  rintro st ⟨aP, aI, rfl⟩
  refine blkR_ok (ev_ok ok 30) _ _ _ ?_
  refine Es.for ok (by intro _; rfl) ?_
  refine (ev_ok ok 30).e _ _ _ ?_
  refine It.list ⟨rfl, fun P => ?_⟩
  refine ⟨fun i st => st = ⟨[("script", sv), ("numbers", .ref 1 D), ("pieces", .ref 2 aP), ("items", .ref 3 aI)], [⟨3, aI, .list (chars (itemsOf (l.take i)))⟩, ⟨2, aP, .list (pieces.map (.str true))⟩, ⟨1, D, .list (intS l)⟩], 7⟩, 9, ⟨_, .rfl, rfl⟩, ?_, ?_, ?_⟩
  · rintro i st rfl
    exact ⟨rfl, rfl⟩
  · rintro i y st it rfl hy
    replace hy := (List.getElem?_map) ▸ hy
    obtain ⟨v, hv, rfl⟩ := Option.map_eq_some_iff.mp hy
    refine blkR_ok (ev_ok ok 30) _ _ _ ?_
    have hi : i < l.length := (List.getElem?_eq_some_iff.mp hv).1
    have step : ∀ {y}, item v = y → itemsOf (l.take (i + 1)) = itemsOf (l.take i) ++ y := fun e => by
      subst e
      unfold itemsOf
      refine rg List.take_add_one (rg hv ?_)
      simp
    have sz := itemsOf_len (l.take i)
    have fin : ∀ {y x} {R : Frz}, item v = y → OR R aI (.list (chars (itemsOf (l.take i)) ++ chars y)) x → OR R aI (.list (chars (itemsOf (l.take (i + 1))))) x := fun e h => by
      refine rg (step e) ?_
      unfold chars
      refine rg List.map_append ?_
      exact h
    replace sz := List.length_take ▸ sz
    refine ⟨rfl, ?_⟩
    refine ⟨fun q => ?_, fun q => ?_⟩
    · refine Me.extend ⟨rfl, ?_⟩
      refine Ev.comp ok (cl := []) (fun _ => true) (fun v y => y = v) (closureFor_none (by decide +kernel)) (by decide +kernel) rfl (by decide +kernel) rfl (by intro _; rfl) ?_
      refine (ev_ok ok 30).e _ _ _ ?_
      obtain ⟨y, hy, hz, hit⟩ := pieceAt q
      have hz' : y.length ≤ szB := Nat.le_trans hz (by decide)
      refine ⟨rfl, .str true y, hy, ?_⟩
      refine ⟨_, compSpec2 ok rfl hz' rfl rfl, fun l' => ?_⟩
      refine ⟨rfl, Cl.extend ⟨rfl, rfl, ?_, ?_⟩⟩
      · simp only [List.length_map]; first | exact upTo hl rfl | exact upTo hz rfl | exact upTo hn rfl | (unfold szB; lia)
      refine ⟨_, ?_, rfl⟩
      exact Le.mk (.cons .rfl (.cons .rfl (.cons .rfl (.cons .rfl .drop)))) (.skip (.cons (fun R x h => fin hit h) .rfl))
    · have cb := code_bounds v
      refine fun aL => ?_
      refine ⟨rfl, fun q1 => ?_, fun q1 => ?_⟩
      · refine Me.append ⟨rfl, ?_⟩
        refine ⟨rfl, Cl.chr ⟨by decide, by decide, ?_⟩⟩
        refine ⟨rfl, Cl.lappend ok ⟨rfl, ?_, ?_⟩⟩
        · simp only [List.length_map]; first | exact upTo hl rfl | exact upTo hz rfl | exact upTo hn rfl | (unfold szB; lia)
        have q1 : anyI ((v.fdiv 12).fmod 1114112) [34, 39, 91] = true := q1
        have hc : codeOf v = 97 := by unfold codeOf codeF; refine rg q1 ?_; rfl
        refine ⟨_, ?_, rfl⟩
        exact Le.mk (.cons .rfl (.cons .rfl (.cons .rfl (.cons .rfl .drop)))) (.skip (.cons (fun R x h => fin (item_code q hc) h) .rfl))
      · refine Et.between rfl ?_
        refine (ev_ok ok 30).e _ _ _ ?_
        refine (ev_ok ok 30).e _ _ _ ?_
        have other : ∀ {b : Bool}, (decide (55296 ≤ (v.fdiv 12).fmod 1114112) && decide ((v.fdiv 12).fmod 1114112 < 57344)) = b → codeOf v = match b with | true => 97 | false => (v.fdiv 12).fmod 1114112 := fun e => by
          have q1 : anyI ((v.fdiv 12).fmod 1114112) [34, 39, 91] = false := q1
          unfold codeOf codeF
          refine rg q1 (rg e ?_)
          rfl
        refine ⟨fun q2 => ?_, fun q2 => ?_⟩
        · refine (ev_ok ok 30).e _ _ _ ?_
          refine ⟨fun q3 => ?_, fun q3 => ?_⟩
          · refine Me.append ⟨rfl, ?_⟩
            refine ⟨rfl, Cl.chr ⟨by decide, by decide, ?_⟩⟩
            refine ⟨rfl, Cl.lappend ok ⟨rfl, ?_, ?_⟩⟩
            · simp only [List.length_map]; first | exact upTo hl rfl | exact upTo hz rfl | exact upTo hn rfl | (unfold szB; lia)
            have hc := other (b := true) (by refine rg (decide_eq_true q2) (rg (decide_eq_true q3) ?_); rfl)
            refine ⟨_, ?_, rfl⟩
            exact Le.mk (.cons .rfl (.cons .rfl (.cons .rfl (.cons .rfl .drop)))) (.skip (.cons (fun R x h => fin (item_code q hc) h) .rfl))
          · refine Me.append ⟨rfl, ?_⟩
            refine ⟨rfl, Cl.chr ⟨cb.1, cb.2, ?_⟩⟩
            refine ⟨rfl, Cl.lappend ok ⟨rfl, ?_, ?_⟩⟩
            · simp only [List.length_map]; first | exact upTo hl rfl | exact upTo hz rfl | exact upTo hn rfl | (unfold szB; lia)
            have hc := other (b := false) (by rw [decide_eq_false q3, Bool.and_false])
            refine ⟨_, ?_, rfl⟩
            exact Le.mk (.cons .rfl (.cons .rfl (.cons .rfl (.cons .rfl .drop)))) (.skip (.cons (fun R x h => fin (item_code q hc) h) .rfl))
        · refine Me.append ⟨rfl, ?_⟩
          refine ⟨rfl, Cl.chr ⟨cb.1, cb.2, ?_⟩⟩
          refine ⟨rfl, Cl.lappend ok ⟨rfl, ?_, ?_⟩⟩
          · simp only [List.length_map]; first | exact upTo hl rfl | exact upTo hz rfl | exact upTo hn rfl | (unfold szB; lia)
          have hc := other (b := false) (by refine rg (decide_eq_false q2) ?_; rfl)
          refine ⟨_, ?_, rfl⟩
          exact Le.mk (.cons .rfl (.cons .rfl (.cons .rfl (.cons .rfl .drop)))) (.skip (.cons (fun R x h => fin (item_code q hc) h) .rfl))
  · rintro st rfl
    refine blkR_ok (ev_ok ok 30) _ _ _ ?_
    have e : itemsOf (l.take (intS l).length) = itemsOf l := by exact rg (List.length_map ..) (rg (List.take_length ..) rfl)
    refine rg e ?_
    exact hQ aI _ (.cons₂ _ (List.nil_sublist _))
theorem nums_len (ns : List Int) : (nums ns).length ≤ 10 := by
  have h : (five ns).length ≤ 5 := by unfold five; refine rg (List.length_map ..) (rg (List.length_take ..) ?_); lia
  unfold nums
  split
  · lia
  · refine rg List.length_append (rg List.length_cons (rg List.length_cons (rg List.length_nil ?_))); lia
theorem items_body {ns : List Int} {Q : SF → St → Prop} (hn : ns.length ≤ 63) (hv : ∀ R, VRs R (intS ns) vs) (ok : (cX prog w A g L name (fScope (stAt 37)) fa cd [] [] os ban outs oenv).Ok)
    (hQ : ∀ P st, List.Sublist [(⟨3, P, .list (chars (itemsOf (nums ns)))⟩ : Cell)] st.mem → Q (.ret (.ref 3 P)) st) :
    Es (cX prog w A g L name (fScope (stAt 37)) fa cd [] [] os ban outs oenv) (execs (fBody (stAt 37)) (Cx.env (cX prog w A g L name (fScope (stAt 37)) fa cd [] [] os ban outs oenv))) ⟨[("script", .fz a (listO vs 0))], [], 0⟩ Q := by
  with_reducible refine items_one hv hn ok fun D => ?_
  with_reducible exact items_two (nums_len ns) ok hQ
end
theorem items_cl {C : Cx} (G : Good C 1) {a : Addr} {ns : List Int} {vs : List Value} {st : St} {Q : SV → St → Prop} (hv : ∀ R, VRs R (intS ns) vs) (hn : ns.length ≤ 63)
    (h : ∀ P, Q (.ref st.nk P) ⟨st.loc, ⟨st.nk, P, .list (chars (itemsOf (nums ns)))⟩ :: st.mem, st.nk + 1⟩) : Cl C (.con (.ref 799)) [.fz a (listO vs 0)] [] st Q := by
  refine G.elim (P := fun C => Cl C (.con (.ref 799)) [.fz a (listO vs 0)] [] st Q) fun prog w A g L name scope fa cd cells cvs os ban outs oenv ok hroom => ?_
  refine Cu.cl (Cu.user ok rfl .rfl (loc := [("script", .fz a (listO vs 0))]) (fk := []) (ft := []) (show (KP w.params).lookup 799 = some _ from rfl) rfl (show A.depth + 1 < 900 by first | exact dp hroom rfl | exact dp hA rfl | lia) (by simp) rfl ?_ rfl (by decide +kernel : List.Nodup (["script"] : List Str)) ?_ ?_)
  · intro R s ws ks r hw hk
    obtain ⟨v, t, rfl, h1, hw⟩ := hw.uncons
    have := hw.unnil; subst this
    have := hk.unnil; subst this
    exact ⟨[v], .cons h1 .nil, BindsTo.of_eq rfl⟩
  · decide +kernel
  · intro A' g L ban outs ok' hA'
    refine items_body hn hv ok' fun P st2 hs => ?_
    exact ⟨[⟨3, P, .list (chars (itemsOf (nums ns)))⟩], [], .ref st.nk P, hs, rfl, fun R y h => by cases h; exact .ref, h P⟩
end Mine
end
end

section
open PySem PySem.W PySem.Calls PyProof.Rows
noncomputable section
set_option Elab.async false
set_option maxRecDepth 100000
set_option autoImplicit false
set_option genSizeOf false
set_option genInjectivity false
set_option linter.unusedVariables false
set_option maxHeartbeats 800000
namespace Mine
/-! _law_told: the stars -/
noncomputable def TK (s s' : Shared) : Prop := ∃ tk, s' = { s with toks := tk }
theorem TK.rfl {s : Shared} : TK s s := ⟨s.toks, Eq.refl _⟩
theorem TK.tok {s s' : Shared} (h : TK s s') (t : Nat) : TK s { s' with toks := t } := by
  obtain ⟨tk, rfl⟩ := h
  exact ⟨t, Eq.refl _⟩
theorem TK.heap {s s' : Shared} (h : TK s s') : s'.heap = s.heap := by
  obtain ⟨tk, rfl⟩ := h; exact Eq.refl _
section
variable {prog : Program} {w : World} {A : Around} {E : Value → Shared → Prop} {env : Env} {s s₀ : Shared} {y : S} {ca l D : Addr} {vs : List Value} {n k : Nat} {t : Tok} {m : Str → Option Value}
/-- what the little tests read -/
structure Sees (env : Env) (s : Shared) (y : S) (k : Nat) (t : Tok) : Prop where
  hk : env.scope.kind = .function
  ki : env.kindOf "items" = some .cell
  kk : env.kindOf "k" = some .local
  seen : ∃ ca l vs n, env.cells.lookup ("items" : Str) = some ca ∧ s.heap.IsCell ca (some (.ref l)) ∧ s.heap.get? l = some (listO vs n) ∧ vs.length = y.length ∧ ∀ (i : Nat) c v, y[i]? = some c → vs[i]? = some v → ∃ u, v = .str ⟨#[c]⟩ u
  ns : ∃ m, s.heap.Ns env.locals m ∧ m "k" = some (.int (k : Int) t)
theorem Sees.tk {s s' : Shared} (h : Sees env s y k t) (q : TK s s') : Sees env s' y k t := by
  obtain ⟨a, b, c, d, e⟩ := h
  obtain ⟨tk, rfl⟩ := q
  exact ⟨a, b, c, d, e⟩
theorem ev_k {np : Pos} {Q : Value → Shared → Prop} (h : Sees env s y k t) (hq : Q (.int (k : Int) t) s) : wpAny (model prog w) A (eval (.Name "k" np) env) Q E s := by
  obtain ⟨m, h1, h2⟩ := h.ns
  exact wpAny_Name (wpAny_loadName_local h.hk h.kk h1 h2 hq) (by decide)
theorem sub_at {e : Expr} {j : Nat} {c : Nat} {np pos : Pos} {Q : Value → Shared → Prop} (h : Sees env s y k t) (hn : match e with | .Slice .. => False | _ => True) (hj : y[j]? = some c) (hz : j ≤ 100000)
    (he : wpAny (model prog w) A (eval e env) (fun v s' => (∃ u, v = .int (j : Int) u) ∧ TK s s' ∧ ∀ u, Q (.str ⟨#[c]⟩ u) s') E s) : wpAny (model prog w) A (eval (.Subscript (.Name "items" np) e pos) env) Q E s := by
  obtain ⟨ca, l, vs, n, h1, h2, h3, h4, h5⟩ := h.seen
  refine Subscript_ (wpAny_Name (wpAny_loadName_cell h.hk h.ki h1 h2 ?_) (by decide))
  refine wpAny_mono he ?_ fun _ _ e => e
  rintro v s' ⟨⟨u, rfl⟩, ⟨tk, rfl⟩, hq⟩
  have hs : ∀ o i, subscripted e false o i = operate [o, i] (getItem o i) := fun o i => by
    induction e using Expr.casesOn <;> first | rfl | exact hn.elim
  have hl := isList_of h3
  have hT : ({ s with toks := tk } : Shared).TypeIs (.ref l) "list" := hl.typeIs
  unfold subscriptTail
  refine wpAny_bind ?_
  refine rg (getitemInPython_of_ne hT.not_modules) ?_
  refine wpAny_bind (wpAny_specialOf hT slot_list_getitem.lookup (wpAny_pure (wpAny_bind ?_)))
  refine (?_ : wpAny _ _ (subscripted e false _ _) _ _ _)
  refine rg (hs ..) ?_
  refine wpAny_operating ?_
  have hjl : j < vs.length := by refine rg h4 ?_; exact (List.getElem?_eq_some_iff.mp hj).1
  obtain ⟨u', hu⟩ := h5 j c vs[j] hj (List.getElem?_eq_getElem hjl)
  refine wpAny_getItem_list (x := .str ⟨#[c]⟩ u') hl (by lia) (by lia) (by exact rg (Int.toNat_natCast ..) (rg (List.getElem?_toArray) (rg (List.getElem?_eq_getElem hjl) (rg (hu ..) rfl)))) ?_
  exact wpAny_bind (wpAny_letTemporaryGo (wpAny_pure (hq u')))
theorem is_star {e : Expr} {j : Nat} {c : Nat} {np pos p2 p3 : Pos} {kk : Nat} {whole : Sem Value} {Q : Bool → Shared → Prop} (b : Bool) (h : Sees env s y k t) (hn : match e with | .Slice .. => False | _ => True) (hj : y[j]? = some c) (hz : j ≤ 100000)
    (he : ∀ Q' : Value → Shared → Prop, (∀ v s', (∃ u, v = .int (j : Int) u) → TK s s' → Q' v s') → wpAny (model prog w) A (eval e env) Q' E s) (hm : behindInMarks (match b with | true => .NotEq | false => .Eq) (.Constant (.str "*") kk p3) = false)
    (hq : ∀ s', TK s s' → Q (match b with | true => !(c == 42) | false => c == 42) s') : wpAny (model prog w) A (isTrue (.Compare (.Subscript (.Name "items" np) e p2) [match b with | true => .NotEq | false => .Eq] [.Constant (.str "*") kk p3] pos) env whole) Q E s := by
  have hb : ∀ (x : Nat), ((⟨#[x]⟩ : Str) == "*") = (x == 42) := fun x => by
    have := beq_str [x] [42]
    refine (?_ : ((⟨[x].toArray⟩ : Str) == ⟨[42].toArray⟩) = _)
    refine rg this ?_
    cases q : x == 42 with
    | true => have : x = 42 := by simpa using q
              subst this; rfl
    | false =>
      cases q' : eqL [x] [42] with
      | false => rfl
      | true => have := eqL_iff.mp q'; simp at this; subst this; simp at q
  refine wpAny_isTrue_Compare1 (sub_at (c := c) h hn hj hz (he _ fun v s' hv hs => ⟨hv, hs, fun u => ?_⟩)) hm
  refine Constant_str ?_
  induction b
  · refine PyProof.Rows.eq_str (wpAny_truthy_bool ?_)
    refine rg (hb ..) ?_; exact hq _ (hs.tok _)
  · refine PyProof.Rows.ne_str (wpAny_truthy_bool ?_)
    unfold bne; refine rg (hb ..) ?_; exact hq _ (hs.tok _)
noncomputable def starAt (y : S) (k : Nat) : Bool := (y[k]? == some 42) && (k == 0 || !(y[k - 1]? == some 42))
noncomputable def starsOf (y : S) : List Int := ((List.range y.length).filter (starAt y)).map fun (k : Nat) => (k : Int)
noncomputable def starV (y : S) : Value → Bool
  | .int k _ => starAt y k.toNat
  | _ => false
theorem star_tests {np np2 np3 p1 p2 p3 p4 p5 p6 p7 p8 p9 p10 p11 p12 pos1 pos2 : Pos} {k1 k2 k3 k4 : Nat} {whole : Sem Value} {Q : Bool → Shared → Prop} (h : Sees env s y k t) (hk : k < y.length) (hz : y.length ≤ 100000) (hq : ∀ s', TK s s' → Q (starAt y k) s') :
    wpAny (model prog w) A (PySem.isTrue (.BoolOp .And [.Compare (.Subscript (.Name "items" np) (.Name "k" p1) p2) [.Eq] [.Constant (.str "*") k1 p3] p4,
      .BoolOp .Or [.Compare (.Name "k" np2) [.Eq] [.Constant (.int 0) k2 p5] p6, .Compare (.Subscript (.Name "items" np3) (.BinOp (.Name "k" p7) .Sub (.Constant (.int 1) k3 p8) p9) p10) [.NotEq] [.Constant (.str "*") k4 p11] p12] pos1] pos2) env whole) Q E s := by
  have e0 : y[k]? = some y[k] := List.getElem?_eq_getElem hk
  have ek : ∀ {s' : Shared} (q : TK s s') (np : Pos) (Q' : Value → Shared → Prop), (∀ v s'', (∃ u, v = .int (k : Int) u) → TK s' s'' → Q' v s'') → wpAny (model prog w) A (eval (.Name "k" np) env) Q' E s' := fun q np Q' h' => ev_k (h.tk q) (h' _ _ ⟨t, rfl⟩ .rfl)
  refine isTrue_and (is_star (c := y[k]) false h trivial e0 (by lia) (fun Q' h' => ek .rfl _ Q' h') rfl fun s1 q1 => ?_)
  by_cases c1 : y[k] = 42
  · have : (y[k] == 42) = true := by simpa using c1
    dsimp only
    refine rg this (rg (if_pos rfl) ?_)
    refine isTrue_and ?_
    refine isTrue_or (wpAny_isTrue_Compare1 (ev_k (h.tk q1) (wpAny_Constant_int ?_)))
    refine PyProof.Rows.eq_int (wpAny_truthy_bool ?_)
    have q2 : TK s { s1 with toks := s1.toks + 1 } := q1.tok _
    by_cases c2 : k = 0
    · have : ((k : Int) == 0) = true := by simp [c2]
      refine rg this (rg (if_pos rfl) (rg (if_pos rfl) ?_))
      refine isTrue_and_nil ?_
      have hs : starAt y k = true := by unfold starAt; refine rg e0 (rg c1 (rg c2 ?_)); rfl
      refine rl hs ?_
      exact hq _ q2
    · have : ((k : Int) == 0) = false := by
        have : (k : Int) ≠ 0 := by lia
        simpa using this
      refine rg this (rg (if_neg (by decide)) ?_)
      have hk1 : k - 1 < y.length := by lia
      have e1 : y[k - 1]? = some y[k - 1] := List.getElem?_eq_getElem hk1
      refine isTrue_or (is_star (c := y[k - 1]) (j := k - 1) true (h.tk q2) trivial e1 (by lia) (fun Q' h' => ?_) rfl fun s3 q3 => ?_)
      · refine wpAny_BinOp (ev_k (h.tk q2) (wpAny_Constant_int ?_))
        have ek1 : (k : Int) - 1 = ((k - 1 : Nat) : Int) := by lia
        refine sub_int ?_
        refine rg ek1 ?_
        exact h' _ _ ⟨_, rfl⟩ ((TK.rfl.tok _).tok _)
      · have q3' : TK s s3 := by
          obtain ⟨tk, rfl⟩ := q3
          exact q2.tok tk
        have hs : starAt y k = !(y[k - 1] == 42) := by
          unfold starAt
          refine rg e0 (rg e1 (rg c1 ?_))
          have : (k == 0) = false := by simpa using c2
          refine rg this ?_; rfl
        dsimp only
        cases b : y[k - 1] == 42 with
        | true =>
          replace hs := b ▸ hs
          refine (?_ : wpAny _ _ _ _ _ _)
          refine isTrue_or_nil ?_
          refine rg (if_neg (by decide)) ?_
          have hs : starAt y k = false := hs
          refine rl hs ?_; exact hq _ q3'
        | false =>
          replace hs := b ▸ hs
          have hs : starAt y k = true := hs
          refine (?_ : (if (true = true) then _ else _))
          rw [if_pos rfl, ]
          refine isTrue_and_nil ?_
          refine rl hs ?_; exact hq _ q3'
  · have : (y[k] == 42) = false := by simpa using c1
    dsimp only
    refine rg this (rg (if_neg (by decide)) ?_)
    have hs : starAt y k = false := by
      unfold starAt
      have : (some y[k] == some 42) = false := by simpa using c1
      refine rg e0 (rg this ?_); rfl
    refine rl hs ?_; exact hq _ q1
theorem VRs.filter {R : Frz} {p : SV → Bool} {q : Value → Bool} : ∀ {xs : List SV} {vs : List Value}, VRs R xs vs → (∀ x v, x ∈ xs → VR R x v → p x = q v) → VRs R (xs.filter p) (vs.filter q)
  | [], vs, h, _ => by have := h.unnil; subst this; exact .nil
  | x :: xs, vs, h, hp => by
    obtain ⟨v, t, rfl, h1, h2⟩ := h.uncons
    have ih := VRs.filter h2 fun x v hx => hp x v (.tail _ hx)
    refine rg List.filter_cons (rg List.filter_cons (rg (hp x v (.head _) h1) ?_))
    split
    · exact .cons h1 ih
    · exact ih
theorem compSpec3 {C : Cx} (ok : C.Ok) {scope : Scope} {cl : List (Str × Addr)} {st1 : St} {a : Addr} {o : Obj} {y : S} {l : Addr} {ca : Addr}
    {np np2 np3 np4 p1 p2 p3 p4 p5 p6 p7 p8 p9 p10 p11 p12 pos1 pos2 : Pos} {k1 k2 k3 k4 : Nat} (hl : y.length ≤ 1000) (hk : scope.kind = .function) (hx : scope.names.lookup ("k" : Str) = some .local) (ho : RangeO y.length o)
    (hi : ∀ D, (compEnvC scope cl D C.env).kindOf "items" = some .cell) (hcl : cl.lookup ("items" : Str) = some ca) (hcc : C.cells.lookup ("items" : Str) = some ca) (hcv : lk C.cvs "items" = some (.ref 0 l)) (hw : withList st1 0 l (· = chars y)) :
    CompSpec C scope cl "k" [.BoolOp .And [.Compare (.Subscript (.Name "items" np) (.Name "k" p1) p2) [.Eq] [.Constant (.str "*") k1 p3] p4,
      .BoolOp .Or [.Compare (.Name "k" np2) [.Eq] [.Constant (.int 0) k2 p5] p6, .Compare (.Subscript (.Name "items" np3) (.BinOp (.Name "k" p7) .Sub (.Constant (.int 1) k3 p8) p9) p10) [.NotEq] [.Constant (.str "*") k4 p11] p12] pos1] pos2]
      (.Name "k" np4) (starV y) (fun v w => w = v) (.fz a o) st1 (intS (starsOf y)) := by
  refine ⟨rangeS y.length, Src.range ok ho (by unfold szB; lia), by simp only [List.length_map, List.length_range]; unfold szB; lia, fun R s1 r1 => ?_, fun R vs zs hv hF => ?_⟩
  · obtain ⟨xs, ws, n, e1, e2, e3, rfl⟩ := r1.list hw
    obtain ⟨c, co, val, f1, f2, f3, f4⟩ := r1.cvs "items" _ hcv
    replace f1 := hcc ▸ f1; obtain rfl := Option.some.inj f1
    cases f4
    have sees : ∀ D v s₃ m₃, s₃.heap.Ns D m₃ → (∃ y' ∈ rangeS y.length, VR R y' v) → m₃ "k" = some v → (∀ b o, s1.heap.get? b = some o → s₃.heap.get? b = some o) → ∃ k t, v = .int (k : Nat) t ∧ k < y.length ∧ Sees (compEnvC scope cl D C.env) s₃ y k t := by
      intro D v s₃ m₃ hn hy hm hk3
      obtain ⟨y', hy', hvy⟩ := hy
      obtain ⟨k, hkr, rfl⟩ := List.mem_map.mp hy'
      (first | obtain ⟨_, rfl⟩ := VR.str' hvy | obtain ⟨_, rfl⟩ := VR.int' hvy | obtain rfl := VR.ref' hvy | obtain rfl := VR.con' hvy | obtain ⟨_, rfl, _⟩ := VR.bm' hvy | obtain ⟨rfl, _⟩ := VR.fz' hvy | obtain rfl := VR.bool' hvy | obtain rfl := VR.none' hvy | cases hvy)
      rename_i t
      refine ⟨k, t, rfl, List.mem_range.mp hkr, hk, hi D, lookup_relabel_local hx, ⟨ca, l, ws, n, hcl, ⟨co, hk3 _ _ (r1.frz _ _ f2).1, f3⟩, hk3 _ _ e3, by refine rl e2.len ?_; simp, fun i c v h1 h2 => ?_⟩, ⟨m₃, hn, hm⟩⟩
      have := e2.at_ i (.str false [c]) v (by refine rg (List.getElem?_map) (rg h1 ?_); rfl) h2
      cases this
      exact ⟨_, rfl⟩
    refine ⟨fun D v s₃ m₃ E' hy hn hm hk3 => ?_, fun D v s₃ m₃ E' hy hp hn hm hk3 => ?_⟩
    · obtain ⟨k, t, rfl, hlt, S⟩ := sees D v s₃ m₃ hn hy hm hk3
      refine wpAny_tests_one (star_tests S hlt (by lia) fun s' q => ⟨?_, ?_⟩)
      · refine (?_ : starAt y k = starAt y (k : Int).toNat)
        rfl
      · obtain ⟨tk, rfl⟩ := q
        exact ⟨_, tk, rfl, fun b o e => e⟩
    · obtain ⟨k, t, rfl, hlt, S⟩ := sees D v s₃ m₃ hn hy hm hk3
      exact ev_k S ⟨rfl, _, _, rfl, fun b o e => e⟩
  · have : zs = vs.filter (starV y) := by
      generalize vs.filter (starV y) = us at hF
      clear hv
      induction hF with
      | nil => rfl
      | cons h _ ih => exact rg h (rg ih rfl)
    refine rg this ?_
    have := hv.filter (p := fun x => match x with | .int _ k => starAt y k.toNat | _ => false) (q := starV y) fun x v hx h => by
      obtain ⟨k, _, rfl⟩ := List.mem_map.mp hx
      cases h; rfl
    have e : intS (starsOf y) = (rangeS y.length).filter (fun x => match x with | .int _ k => starAt y k.toNat | _ => false) := by
      unfold starsOf intS rangeS
      refine rg List.map_map (rg List.filter_map ?_)
      rfl
    refine rg e ?_; exact this
end
end Mine
end
end

section
open PySem PySem.W PySem.Calls PyProof.Rows
noncomputable section
set_option Elab.async false
set_option maxRecDepth 100000
set_option autoImplicit false
set_option linter.unusedVariables false
set_option maxHeartbeats 800000
namespace Mine
/-! _law_told -/
theorem E2.repI {C : Cx} {st : St} {Q : SV → St → Prop} {c d : Bool} {x : List Nat} {i : Int} (n : Nat) (hi : i = n) (hn : n ≤ 1000) (hx : x.length ≤ 1000) (h : Q (.str false (Mine.rep n x)) st) : E2 C (binaryOp .Mult) (.str c x) (.int d i) st Q := by
  subst hi; exact E2.rep hn hx h
theorem inInts_of {n : Bool} {i : Int} {l : List Int} {st : St} {Q : Bool → Bool → St → Prop} (h : neg n Q false (anyI i l) st) : inInts n false i (intS l) st Q := by
  have : ∃ d, intsOf (intS l) = some (d, l) := by
    clear h
    induction l with
    | nil => exact ⟨true, rfl⟩
    | cons a l ih =>
      obtain ⟨d, hd⟩ := ih
      refine ⟨false, ?_⟩
      refine (?_ : (match intsOf (intS l) with | some (d, l) => some (false && d, a :: l) | none => none) = _)
      refine rg hd ?_; rfl
  obtain ⟨d, hd⟩ := this
  unfold inInts
  refine rg hd ?_
  exact h
theorem Ev.andB {C : Cx} {st : St} {l r : Expr} {pos : Pos} {Q : SV → St → Prop} (h : Ev C (eval l C.env) st fun a st1 => match a with
    | .bool _ b => (b = true → Ev C (eval r C.env) st1 Q) ∧ (b = false → Q (.bool false false) st1)
    | _ => False) : Ev C (eval (.BoolOp .And [l, r] pos) C.env) st Q := by
  intro R s rr
  refine BoolOp_and (wpAny_mono (h R s rr) ?_ fun _ _ e => e)
  rintro v s1 ⟨R1, g1, a, st1, r1, hv, h1⟩
  induction hv <;> first | exact h1.elim | skip
  rename_i c b
  refine wpAny_truthy_bool ?_
  induction b with
  | true =>
    refine rg (if_pos rfl) ?_
    exact BoolOp_one (wpAny_mono (h1.1 rfl R1 s1 r1) (fun _ _ q => q.grows g1) fun _ _ e => e)
  | false =>
    refine rg (if_neg (by decide)) ?_
    exact ⟨R1, g1, _, st1, r1, .bool, h1.2 rfl⟩
noncomputable def first (y : S) : Int := ((starsOf y)[0]?).getD 0
noncomputable def last (y : S) : Int := ((starsOf y)[(starsOf y).length - 1]?).getD 0
noncomputable def headAt (y : S) (k : Nat) : Bool := decide (0 < k) && anyS [(y[k - 1]?).getD 0] [[10], [13]]
noncomputable def shutAt (y : S) (k : Nat) : S := match (k : Int) == first y with | true => [] | false => [41]
noncomputable def starP (y : S) (m k : Nat) : S := match (k : Int) == last y with
  | false => rep m (shutAt y k ++ codes "(.>.") ++ shutAt y k ++ codes "(?>.*?" ++ rep m (codes ".")
  | true => match (k : Int) == first y with
    | false => rep m (codes ").") ++ codes ").*"
    | true => rep (m + 1) (codes ".") ++ (match headAt y k with | true => codes "." | false => []) ++ codes "*"
noncomputable def piece (y : S) (m k c : Nat) : S := match anyS [c] [[10], [13]] with
  | true => rep (2 ^ m) (codes "\r\n")
  | false => match eqL [c] [63] with
    | true => match headAt y k with | true => codes ".." | false => codes "."
    | false => match eqL [c] [42] with
      | false => [c]
      | true => match anyI (k : Int) (starsOf y) with | false => [] | true => starP y m k
noncomputable def toldN (y : S) (m n : Nat) : S := ((List.range n).map fun k => piece y m k ((y[k]?).getD 0)).flatten
noncomputable def toldPre (m : Nat) : S := codes "(?s:" ++ rep m (codes "(.s:")
noncomputable def told (y : S) (m : Nat) : S := toldPre m ++ toldN y m y.length ++ rep (m + 1) (codes ")Z")
theorem rep_len (n : Nat) (x : S) : (rep n x).length = n * x.length := by
  unfold rep; simp
theorem pow_le {m : Nat} (hm : m ≤ 2) : 2 ^ m ≤ 4 := by
  have : m = 0 ∨ m = 1 ∨ m = 2 := by lia
  rcases this with rfl | rfl | rfl <;> decide
theorem piece_len {y : S} {m k c : Nat} (hm : m ≤ 2) : (piece y m k c).length ≤ 25 := by
  have hp := pow_le hm
  have hsh : (shutAt y k).length ≤ 1 := by unfold shutAt; split <;> simp
  have d1 : (codes "\r\n").length = 2 := rfl
  have d2 : (codes "..").length = 2 := rfl
  have d3 : (codes ".").length = 1 := rfl
  have d4 : (codes "(.>.").length = 4 := rfl
  have d5 : (codes "(?>.*?").length = 6 := rfl
  have d6 : (codes ").").length = 2 := rfl
  have d7 : (codes ").*").length = 3 := rfl
  have d8 : (codes "*").length = 1 := rfl
  unfold piece
  split
  · refine rg (rep_len ..) (rg (d1 ..) ?_); lia
  · split
    · split
      · refine rg d2 ?_; lia
      · refine rg d3 ?_; lia
    · split
      · simp
      · split
        · simp
        · unfold starP
          split
          · simp only [List.length_append, rep_len, d3, d4, d5]
            have h1 : m * ((shutAt y k).length + 4) ≤ 2 * 5 := Nat.mul_le_mul hm (by lia)
            lia
          · split
            · simp only [List.length_append, rep_len, d6, d7]; lia
            · have : ((match headAt y k with | true => codes "." | false => []) : S).length ≤ 1 := by
                split
                · refine rg d3 ?_; lia
                · simp
              simp only [List.length_append, rep_len, d3, d8]; lia
theorem toldN_succ (y : S) (m n : Nat) : toldN y m (n + 1) = toldN y m n ++ piece y m n ((y[n]?).getD 0) := by
  unfold toldN
  refine rg List.range_succ (rg List.map_append (rg List.flatten_append ?_))
  simp
theorem toldN_len {y : S} {m : Nat} (hm : m ≤ 2) : ∀ n : Nat, (toldN y m n).length ≤ 25 * n
  | 0 => Nat.le_refl _
  | n + 1 => by
    have h1 := toldN_len (y := y) hm n
    have h2 := piece_len (y := y) (k := n) (c := (y[n]?).getD 0) hm
    refine rg (toldN_succ ..) (rg (List.length_append ..) ?_)
    lia
theorem toldPre_len {m : Nat} (hm : m ≤ 2) : (toldPre m).length ≤ 12 := by
  unfold toldPre
  rw [List.length_append, rep_len]
  show 4 + m * 4 ≤ _
  lia
section
variable {prog : Program} {w : World} {A : Around} {g : Heap} {L : Addr} {fa : Addr} {name : Str} {cd : Value} {os : OsState} {ban : List Addr} {outs : List (Addr × Obj)} {oenv : List Env} {ca l D : Addr}
theorem told_one {y : S} {m : Nat} {Q : SF → St → Prop} (hm : m ≤ 2) (hy : y.length ≤ 20) (ok : (cX prog w A g L name (fScope (stAt 38)) fa cd [("items", ca)] [("items", .ref 0 l)] os ban outs oenv).Ok)
    (hQ : ∀ D, Es (cX prog w A g L name (fScope (stAt 38)) fa cd [("items", ca)] [("items", .ref 0 l)] os ban outs oenv) (execs ((fBody (stAt 38)).drop 3) (Cx.env (cX prog w A g L name (fScope (stAt 38)) fa cd [("items", ca)] [("items", .ref 0 l)] os ban outs oenv)))
      ⟨[("turns", .int false ((m + 1 : Nat) : Int)), ("stars", .ref 1 D), ("more", .int false (m : Int)), ("text", .str false (toldPre m))], [⟨1, D, .list (intS (starsOf y))⟩, ⟨0, l, .list (chars y)⟩], 2⟩ Q) :
    Es (cX prog w A g L name (fScope (stAt 38)) fa cd [("items", ca)] [("items", .ref 0 l)] os ban outs oenv) (execs (fBody (stAt 38)) (Cx.env (cX prog w A g L name (fScope (stAt 38)) fa cd [("items", ca)] [("items", .ref 0 l)] os ban outs oenv))) ⟨[("turns", .int false ((m + 1 : Nat) : Int))], [⟨0, l, .list (chars y)⟩], 1⟩ Q := by
  with_reducible refine Es.cut ok 30 3 (fun st => ∃ D, st = ⟨[("turns", .int false ((m + 1 : Nat) : Int)), ("stars", .ref 1 D), ("more", .int false (m : Int)), ("text", .str false (toldPre m))], [⟨1, D, .list (intS (starsOf y))⟩, ⟨0, l, .list (chars y)⟩], 2⟩) ?_ ?_
  · refine Es.assignComp ok (cl := [("items", ca)]) (starV y) (fun v w => w = v) rfl (by rfl) (by decide +kernel) rfl (by decide +kernel) rfl rfl (by intro _; rfl) ?_
    refine (ev_ok ok 30).e _ _ _ ?_
    refine ⟨rfl, Cl.len_list ⟨rfl, ?_, ?_⟩⟩
    · refine rg (List.length_map ..) ?_; first | exact upTo hy rfl | (unfold szB; lia)
    refine ⟨rfl, Cl.range ok fun a o ho => ?_⟩
    refine ⟨_, compSpec3 ok (y := y) (l := l) (ca := ca) (by lia) rfl rfl (by simpa using ho) (fun D => rfl) rfl rfl rfl ⟨rfl, rfl⟩, fun D => ?_⟩
    refine E2.repI m (by lia) (by first | exact upTo hm rfl | lia) (by decide) ?_
    refine ⟨?_, ?_⟩
    · refine rg (rep_len ..) ?_; unfold szB; have : m * 4 ≤ 2 * 4 := Nat.mul_le_mul_right _ hm; refine (?_ : 4 + m * 4 ≤ _); lia
    refine ⟨_, ?_, D, rfl⟩
    exact Le.mk (.cons .rfl (.cons (fun R y h => by cases h; exact .ref) (.cons (SVle.int (by lia)) (.cons (SVle.str rfl) .nil)))) (.cons (fun _ _ h => h) .rfl)
  · rintro st ⟨D, rfl⟩
    with_reducible exact hQ D
theorem item_chars {y : S} {i c : Nat} (h : y[i]? = some c) (hz : y.length ≤ 20) : itemAt (chars y) (i : Int) (.str false [c]) := by
  have hi := (List.getElem?_eq_some_iff.mp h).1
  refine .inl ⟨by lia, by unfold szB; lia, ?_⟩
  refine rg (Int.toNat_natCast ..) (rg (List.getElem?_map) (rg (h ..) ?_)); rfl
theorem item_chars1 {y : S} {i c : Nat} (hi : 0 < i) (h : y[i - 1]? = some c) (hz : y.length ≤ 20) : itemAt (chars y) ((i : Int) - 1) (.str false [c]) := by
  have : (i : Int) - 1 = ((i - 1 : Nat) : Int) := by lia
  refine rg this ?_; exact item_chars h hz
theorem stars_ends {y : S} {k : Int} (h : anyI k (starsOf y) = true) : (starsOf y)[0]? = some (first y) ∧ (starsOf y)[(starsOf y).length - 1]? = some (last y) := by
  unfold first last
  generalize starsOf y = l at h
  induction l with
  | nil => exact ftE h
  | cons a l =>
    refine ⟨rfl, ?_⟩
    refine rg (List.getElem?_eq_getElem (by simp)) ?_; rfl
theorem stars_len (y : S) : (starsOf y).length ≤ y.length := by
  unfold starsOf
  refine rg (List.length_map ..) ?_
  exact Nat.le_trans (List.length_filter_le _ _) (by simp)
theorem itemAt0 {l : List Int} {x : Int} (h : l[0]? = some x) : itemAt (intS l) 0 (.int false x) := .inl ⟨by decide, by decide, by refine rg (show (0 : Int).toNat = 0 from rfl) (rg (List.getElem?_map) (rg h ?_)); rfl⟩
theorem itemAtL {l : List Int} {x : Int} (h : l[l.length - 1]? = some x) (hz : l.length ≤ 20) : itemAt (intS l) (-1) (.int false x) := by
  have hl : 0 < l.length := by
    have := (List.getElem?_eq_some_iff.mp h).1
    lia
  refine .inr ⟨by decide, ?_, ?_, ?_⟩
  · refine rg (List.length_map ..) ?_; lia
  · refine rg (List.length_map ..) ?_; first | exact upTo hy rfl | (unfold szB; lia)
  · refine rg (List.length_map ..) ?_
    have : ((-1 : Int) + (l.length : Int)).toNat = l.length - 1 := by
      clear h hz
      obtain ⟨k, hk⟩ := Nat.exists_eq_add_of_lt hl
      refine rg hk ?_
      simp
      rw [show (-1 : Int) + ((k : Int) + 1) = k by lia, Int.toNat_natCast]
    refine rg this (rg (List.getElem?_map) (rg h ?_)); rfl
theorem rep_le {m : Nat} {x : S} (hm : m ≤ 2) (hx : Nat.ble x.length 5 = true) : (rep m x).length ≤ 10 := by
  refine rg (rep_len ..) ?_; exact Nat.mul_le_mul hm (Nat.le_of_ble_eq_true hx)
theorem rep_le3 {m : Nat} {x : S} (hm : m ≤ 2) (hx : Nat.ble x.length 5 = true) : (rep (m + 1) x).length ≤ 15 := by
  refine rg (rep_len ..) ?_; exact Nat.mul_le_mul (Nat.succ_le_succ hm) (Nat.le_of_ble_eq_true hx)
theorem la {a b : S} {p q : Nat} (h1 : a.length ≤ p) (h2 : b.length ≤ q) : (a ++ b).length ≤ p + q := by refine rg List.length_append ?_; exact Nat.add_le_add h1 h2
theorem li {x : S} (hx : Nat.ble x.length 10 = true) : x.length ≤ 10 := Nat.le_of_ble_eq_true hx
theorem lz {a b p q : Nat} (h1 : a ≤ p) (h2 : b ≤ q) (h : Nat.ble (p + q) szB = true) : a + b ≤ szB := Nat.le_trans (Nat.add_le_add h1 h2) (Nat.le_of_ble_eq_true h)
theorem app3 (a b c d : S) : a ++ b ++ c ++ d = a ++ (b ++ c ++ d) := by simp
theorem app4 (a b c d e : S) : a ++ b ++ c ++ d ++ e = a ++ (b ++ c ++ d ++ e) := by simp
theorem told_two {y : S} {m : Nat} {Q : SF → St → Prop} (hm : m ≤ 2) (hy : y.length ≤ 20) (ok : (cX prog w A g L name (fScope (stAt 38)) fa cd [("items", ca)] [("items", .ref 0 l)] os ban outs oenv).Ok)
    (hQ : ∀ st, List.Sublist [(⟨0, l, .list (chars y)⟩ : Cell)] st.mem → Q (.ret (.str false (told y m))) st) :
    Es (cX prog w A g L name (fScope (stAt 38)) fa cd [("items", ca)] [("items", .ref 0 l)] os ban outs oenv) (execs ((fBody (stAt 38)).drop 3) (Cx.env (cX prog w A g L name (fScope (stAt 38)) fa cd [("items", ca)] [("items", .ref 0 l)] os ban outs oenv)))
      ⟨[("turns", .int false ((m + 1 : Nat) : Int)), ("stars", .ref 1 D), ("more", .int false (m : Int)), ("text", .str false (toldPre m))], [⟨1, D, .list (intS (starsOf y))⟩, ⟨0, l, .list (chars y)⟩], 2⟩ Q := by
  refine blkR_ok (ev_ok ok 30) _ _ _ ?_
  refine Es.for ok (by intro _; rfl) ?_
  refine (ev_ok ok 30).e _ _ _ ?_
  refine ⟨rfl, Cl.len_list ⟨rfl, ?_, ?_⟩⟩
  · refine rg (List.length_map ..) ?_; first | exact upTo hy rfl | (unfold szB; lia)
  refine ⟨rfl, Cl.range ok fun a o ho => ?_⟩
  refine It.range (n := y.length) (by simpa using ho) (by first | exact upTo hy rfl | (unfold szB; lia)) fun P => ?_
  refine ⟨fun i st => st = ⟨[("turns", .int false ((m + 1 : Nat) : Int)), ("stars", .ref 1 D), ("more", .int false (m : Int)), ("text", .str false (toldPre m ++ toldN y m i))], [⟨1, D, .list (intS (starsOf y))⟩, ⟨0, l, .list (chars y)⟩], 2⟩, 9, ⟨_, ?_, rfl⟩, ?_, ?_, ?_⟩
  · exact Le.mk (.cons .rfl (.cons .rfl (.cons .rfl (.cons (SVle.str (by simp [toldN])) .nil)))) .rfl
  · rintro i st rfl
    trivial
  · rintro i v st it rfl hv
    replace hv := (List.getElem?_map) ▸ hv
    obtain ⟨i', hi', rfl⟩ := Option.map_eq_some_iff.mp hv
    obtain ⟨hlt, hi'⟩ := List.getElem?_eq_some_iff.mp hi'
    replace hlt := List.length_range ▸ hlt
    rw [List.getElem_range] at hi'
    subst hi'
    have hc : y[i]? = some y[i] := List.getElem?_eq_getElem hlt
    generalize y[i] = c at hc
    refine (?_ : Es _ (execs _ _) _ _)
    with_reducible refine Es.cut ok 30 2 (fun st => st = ⟨[("turns", .int false ((m + 1 : Nat) : Int)), ("stars", .ref 1 D), ("more", .int false (m : Int)), ("text", .str false (toldPre m ++ toldN y m i)), ("k", .int false (i : Int)), ("one", .str false [c]), ("head", .bool false (headAt y i))], [⟨1, D, .list (intS (starsOf y))⟩, ⟨0, l, .list (chars y)⟩, ⟨9, it, .raw (P (i + 1))⟩], 20⟩) ?_ ?_
    · refine ⟨rfl, .str false [c], item_chars hc hy, ?_⟩
      refine Ev.andB ?_
      refine (ev_ok ok 30).e _ _ _ ?_
      refine ⟨fun q => ?_, fun q => ?_⟩
      · have q := of_decide_eq_true q
        have q : 0 < i := by lia
        have hi1 : i - 1 < y.length := by lia
        have hc1 : y[i - 1]? = some y[i - 1] := List.getElem?_eq_getElem hi1
        have hh : headAt y i = anyS [y[i - 1]] [[10], [13]] := by
          unfold headAt
          refine rg (decide_eq_true q) (rg hc1 ?_); rfl
        refine (ev_ok ok 30).e _ _ _ ?_
        refine ⟨rfl, .str false [y[i - 1]], item_chars1 q hc1 hy, ?_⟩
        refine fun aL => ⟨rfl, ?_⟩
        refine ⟨_, ?_, rfl⟩
        exact Le.mk (.cons .rfl (.cons .rfl (.cons .rfl (.cons .rfl (.cons .rfl (.cons .rfl (.cons (SVle.bool hh.symm) .nil))))))) (.skip .rfl)
      · have q := of_decide_eq_false q
        have hh : headAt y i = false := by
          unfold headAt
          refine rg (decide_eq_false (by lia)) ?_; rfl
        refine ⟨_, ?_, rfl⟩
        exact Le.mk (.cons .rfl (.cons .rfl (.cons .rfl (.cons .rfl (.cons .rfl (.cons .rfl (.cons (SVle.bool hh.symm) .nil))))))) .rfl
    · rintro st rfl
      have hp : toldN y m (i + 1) = toldN y m i ++ piece y m i c := by refine rg (toldN_succ ..) (rg (hc ..) ?_); rfl
      have hz1 : (toldPre m ++ toldN y m i).length ≤ 512 := by
        have h1 := toldPre_len hm
        have h2 := toldN_len (y := y) hm i
        refine rg List.length_append ?_; lia
      have fin : ∀ {z : S}, piece y m i c = z → (toldPre m ++ toldN y m i) ++ z = toldPre m ++ toldN y m (i + 1) := fun h => by rw [hp, h, List.append_assoc]
      have pw := pow_le hm
      generalize toldPre m ++ toldN y m i = T at hz1 fin
      refine blkR_ok (ev_ok ok 30) _ _ _ ?_
      refine fun aL => ⟨rfl, fun q1 => ?_, fun q1 => ?_⟩
      · refine E2.pow2 (n := m) (by first | exact upTo hm rfl | lia) ?_
        refine E2.rep (n := 2 ^ m) (by lia) (by decide) ?_
        refine ⟨?_, ?_⟩
        · rw [rep_len]; unfold szB; show _ + 2 ^ m * 2 ≤ _; lia
        have hz : piece y m i c = rep (2 ^ m) (codes "\r\n") := by unfold piece; rw [show anyS [c] [[10], [13]] = true from q1]
        refine ⟨_, ?_, rfl⟩
        exact Le.mk (.cons .rfl (.cons .rfl (.cons .rfl (.cons (SVle.str (fin hz)) .drop)))) (.skip .rfl)
      have q1 : anyS [c] [[10], [13]] = false := q1
      refine ⟨fun q2 => ?_, fun q2 => ?_⟩
      · have q2 : eqL [c] [63] = true := q2
        refine ⟨fun q3 => ?_, fun q3 => ?_⟩
        · have hz : piece y m i c = codes ".." := by unfold piece; rw [q1, q2, q3]
          refine ⟨by unfold szB; show _ + 2 ≤ _; lia, ?_⟩
          refine ⟨_, ?_, rfl⟩
          exact Le.mk (.cons .rfl (.cons .rfl (.cons .rfl (.cons (SVle.str (fin hz)) .drop)))) (.skip .rfl)
        · have hz : piece y m i c = codes "." := by unfold piece; rw [q1, q2, q3]
          refine ⟨by unfold szB; show _ + 1 ≤ _; lia, ?_⟩
          refine ⟨_, ?_, rfl⟩
          exact Le.mk (.cons .rfl (.cons .rfl (.cons .rfl (.cons (SVle.str (fin hz)) .drop)))) (.skip .rfl)
      have q2 : eqL [c] [63] = false := q2
      refine ⟨fun q3 => ?_, fun q3 => ?_⟩
      · have q3 : (!eqL [c] [42]) = true := q3
        have q3 : eqL [c] [42] = false := by simpa using q3
        have hz : piece y m i c = [c] := by unfold piece; rw [q1, q2, q3]
        refine ⟨by unfold szB; show _ + 1 ≤ _; lia, ?_⟩
        refine ⟨_, ?_, rfl⟩
        exact Le.mk (.cons .rfl (.cons .rfl (.cons .rfl (.cons (SVle.str (fin hz)) .drop)))) (.skip .rfl)
      have q3 : (!eqL [c] [42]) = false := q3
      have q3 : eqL [c] [42] = true := by simpa using q3
      refine ⟨rfl, inInts_of ?_⟩
      refine ⟨fun q4 => ?_, fun q4 => ?_⟩
      · have q4 : anyI (i : Int) (starsOf y) = true := q4
        have hz : piece y m i c = starP y m i := by unfold piece; rw [q1, q2, q3, q4]
        rw [starP] at hz
        obtain ⟨hf, hl⟩ := stars_ends q4
        have hsl := stars_len y
        refine ⟨rfl, .int false (first y), itemAt0 hf, ?_⟩
        have neq : ∀ {u v : Int}, (u != v) = true → (u == v) = false := fun h => by simpa using h
        have neq' : ∀ {u v : Int}, (u != v) = false → (u == v) = true := fun h => by simpa using h
        refine ⟨fun q5 => ?_, fun q5 => ?_⟩
        · have hs : shutAt y i = [] := by unfold shutAt; rw [q5]
          refine ⟨rfl, .int false (last y), itemAtL hl (by first | exact upTo hy rfl | lia), ?_⟩
          refine ⟨fun q6 => ?_, fun q6 => ?_⟩
          · rw [neq q6, hs] at hz
            refine E2.rep (n := m) (by first | exact upTo hm rfl | lia) (by decide) ?_
            refine ⟨lz hz1 (rep_le hm rfl) rfl, ?_⟩
            refine ⟨lz (la hz1 (rep_le hm rfl)) (li rfl) rfl, ?_⟩
            refine ⟨lz (la (la hz1 (rep_le hm rfl)) (li rfl)) (li rfl) rfl, ?_⟩
            refine E2.rep (n := m) (by first | exact upTo hm rfl | lia) (by decide) ?_
            refine ⟨lz (la (la (la hz1 (rep_le hm rfl)) (li rfl)) (li rfl)) (rep_le hm rfl) rfl, ?_⟩
            refine ⟨_, ?_, rfl⟩
            exact Le.mk (.cons .rfl (.cons .rfl (.cons .rfl (.cons (SVle.str ((app4 _ _ _ _ _).trans (fin hz))) .drop)))) (.skip .rfl)
          · rw [neq' q6, q5] at hz
            refine ⟨rfl, .int false (first y), itemAt0 hf, ?_⟩
            refine ⟨fun q7 => ?_, fun q7 => ?_⟩
            · have := neq q7
              rw [q5] at this; exact tfE this
            · refine E2.repI (m + 1) rfl (by first | exact upTo (Nat.succ_le_succ hm) rfl | lia) (by decide) ?_
              refine ⟨lz hz1 (rep_le3 hm rfl) rfl, ?_⟩
              refine ⟨fun q8 => ?_, fun q8 => ?_⟩
              · rw [q8] at hz
                refine ⟨lz (la hz1 (rep_le3 hm rfl)) (li rfl) rfl, ?_⟩
                refine ⟨lz (la (la hz1 (rep_le3 hm rfl)) (li rfl)) (li rfl) rfl, ?_⟩
                refine ⟨_, ?_, rfl⟩
                exact Le.mk (.cons .rfl (.cons .rfl (.cons .rfl (.cons (SVle.str ((app3 _ _ _ _).trans (fin hz))) .drop)))) (.skip .rfl)
              · rw [q8] at hz
                refine ⟨lz (la hz1 (rep_le3 hm rfl)) (li rfl) rfl, ?_⟩
                refine ⟨lz (la (la hz1 (rep_le3 hm rfl)) (li rfl)) (li rfl) rfl, ?_⟩
                refine ⟨_, ?_, rfl⟩
                exact Le.mk (.cons .rfl (.cons .rfl (.cons .rfl (.cons (SVle.str ((app3 _ _ _ _).trans (fin hz))) .drop)))) (.skip .rfl)
        · have hs : shutAt y i = [41] := by unfold shutAt; rw [q5]
          refine ⟨rfl, .int false (last y), itemAtL hl (by first | exact upTo hy rfl | lia), ?_⟩
          refine ⟨fun q6 => ?_, fun q6 => ?_⟩
          · rw [neq q6, hs] at hz
            refine E2.rep (n := m) (by first | exact upTo hm rfl | lia) (by decide) ?_
            refine ⟨lz hz1 (rep_le hm rfl) rfl, ?_⟩
            refine ⟨lz (la hz1 (rep_le hm rfl)) (li rfl) rfl, ?_⟩
            refine ⟨lz (la (la hz1 (rep_le hm rfl)) (li rfl)) (li rfl) rfl, ?_⟩
            refine E2.rep (n := m) (by first | exact upTo hm rfl | lia) (by decide) ?_
            refine ⟨lz (la (la (la hz1 (rep_le hm rfl)) (li rfl)) (li rfl)) (rep_le hm rfl) rfl, ?_⟩
            refine ⟨_, ?_, rfl⟩
            exact Le.mk (.cons .rfl (.cons .rfl (.cons .rfl (.cons (SVle.str ((app4 _ _ _ _ _).trans (fin hz))) .drop)))) (.skip .rfl)
          · rw [neq' q6, q5] at hz
            refine ⟨rfl, .int false (first y), itemAt0 hf, ?_⟩
            refine ⟨fun q7 => ?_, fun q7 => ?_⟩
            · refine E2.rep (n := m) (by first | exact upTo hm rfl | lia) (by decide) ?_
              refine ⟨lz hz1 (rep_le hm rfl) rfl, ?_⟩
              refine ⟨lz (la hz1 (rep_le hm rfl)) (li rfl) rfl, ?_⟩
              refine ⟨_, ?_, rfl⟩
              exact Le.mk (.cons .rfl (.cons .rfl (.cons .rfl (.cons (SVle.str ((List.append_assoc _ _ _).trans (fin hz))) .drop)))) (.skip .rfl)
            · have := neq' q7
              rw [q5] at this; exact ftE this
      · have q4 : anyI (i : Int) (starsOf y) = false := q4
        have hz : piece y m i c = [] := by unfold piece; rw [q1, q2, q3, q4]
        refine ⟨_, ?_, rfl⟩
        exact Le.mk (.cons .rfl (.cons .rfl (.cons .rfl (.cons (SVle.str ((List.append_nil T).symm.trans (fin hz))) .drop)))) (.skip .rfl)
  · rintro st rfl
    refine blkR_ok (ev_ok ok 30) _ _ _ ?_
    have e : (rangeS y.length).length = y.length := by simp
    refine rg e ?_
    refine E2.repI (m + 1) rfl (by first | exact upTo (Nat.succ_le_succ hm) rfl | lia) (by decide) ?_
    refine ⟨?_, ?_⟩
    · have h1 := toldPre_len hm
      have h2 := toldN_len (y := y) hm y.length
      rw [List.length_append, rep_len]
      unfold szB
      show _ + (m + 1) * 2 ≤ _
      lia
    exact hQ _ (.cons _ (List.Sublist.refl _))
theorem told_body {y : S} {m : Nat} {Q : SF → St → Prop} (hm : m ≤ 2) (hy : y.length ≤ 20) (ok : (cX prog w A g L name (fScope (stAt 38)) fa cd [("items", ca)] [("items", .ref 0 l)] os ban outs oenv).Ok)
    (hQ : ∀ st, List.Sublist [(⟨0, l, .list (chars y)⟩ : Cell)] st.mem → Q (.ret (.str false (told y m))) st) :
    Es (cX prog w A g L name (fScope (stAt 38)) fa cd [("items", ca)] [("items", .ref 0 l)] os ban outs oenv) (execs (fBody (stAt 38)) (Cx.env (cX prog w A g L name (fScope (stAt 38)) fa cd [("items", ca)] [("items", .ref 0 l)] os ban outs oenv))) ⟨[("turns", .int false ((m + 1 : Nat) : Int))], [⟨0, l, .list (chars y)⟩], 1⟩ Q := by
  with_reducible refine told_one hm hy ok fun D => ?_
  with_reducible exact told_two hm hy ok hQ
end
theorem told_cl {C : Cx} (G : Good C 1) {k : Nat} {l : Addr} {y : S} {m : Nat} {c : Bool} {st : St} {Q : SV → St → Prop} (hm : m ≤ 2) (hy : y.length ≤ 20) (hc : mlk st.mem k = some ⟨k, l, .list (chars y)⟩) (h : Q (.str false (told y m)) st) :
    Cl C (.con (.ref 804)) [.ref k l, .int c ((m + 1 : Nat) : Int)] [] st Q := by
  refine G.elim (P := fun C => Cl C (.con (.ref 804)) [.ref k l, .int c ((m + 1 : Nat) : Int)] [] st Q) fun prog w A g L name scope fa cd cells cvs os ban outs oenv ok hroom => ?_
  refine Cu.cl (Cu.cell2 ok .rfl (cn := "items") (tn := "turns") (y0 := .ref 0 l) (y1 := .int false ((m + 1 : Nat) : Int)) (fk := [k]) (ft := [⟨k, l, .list (chars y)⟩]) (show (KP w.params).lookup 804 = some _ from rfl) rfl (show A.depth + 1 < 900 by first | exact dp hroom rfl | exact dp hA rfl | lia) (by simp) (fts1 hc)
    (fun v w => rfl) (fun R x h => by cases h; exact .ref) (SVle.int rfl) (fun n => by rfl) (by rfl) (by rfl) ?_)
  intro A' g L ca ban outs ok' hA'
  refine told_body hm hy ok' fun st2 hs => ?_
  exact Fin.keep1 hc (fun _ _ h => h) hs h
end Mine
end
end

section
open PySem PySem.W PySem.Calls PyProof.Rows
noncomputable section
set_option Elab.async false
set_option maxRecDepth 100000
set_option autoImplicit false
set_option genSizeOf false
set_option genInjectivity false
set_option linter.unusedVariables false
set_option maxHeartbeats 800000
namespace Mine
/-! law -/
structure Turn (y : S) (m : Nat) (p : S) : Prop where
  no91 : 91 ∉ p
  len : p.length ≤ 1000
  len2 : (qdF (trF p)).length ≤ 100000
  words : ∃ us, Words (comOf (Nat.beq m 1)) (qdF (trF p)) us ∧ us.length ≤ 100000 ∧ total us + us.length * 1 ≤ szB ∧ glue [10] us = told y m
noncomputable def prev (y : S) : Nat → S
  | 0 => y
  | m + 1 => told y m
noncomputable def itemsY (ns : List Int) : S := itemsOf (nums ns)
theorem itemsY_len (ns : List Int) : (itemsY ns).length ≤ 20 := Nat.le_trans (itemsOf_len _) (Nat.mul_le_mul_left 2 (nums_len ns))
theorem Strs.weak' {xs : List SV} : ∀ {l : List S}, xs = l.map (.str false) → Strs xs l := fun h => by subst h; exact Strs.map false _
theorem glue_chars (y : S) : glue [] (y.map fun c => [c]) = y := by
  cases y with
  | nil => rfl
  | cons a y =>
    refine (?_ : glueF [] [a] _ = _)
    refine rg (glueF_eq ..) ?_
    induction y with
    | nil => rfl
    | cons b y ih => simp at ih ⊢; exact ih
theorem total_chars (y : S) : total (y.map fun c => [c]) = y.length := by
  unfold total
  induction y with
  | nil => rfl
  | cons a y ih => simp at ih ⊢; lia
section
variable {prog : Program} {w : World} {A : Around} {g : Heap} {L : Addr} {fa : Addr} {name : Str} {cd : Value} {os : OsState} {ban : List Addr} {outs : List (Addr × Obj)} {oenv : List Env} {a : Addr} {vs : List Value}
theorem law_body {ns : List Int} {Q : SF → St → Prop} (hn : ns.length ≤ 63) (hv : ∀ R, VRs R (intS ns) vs) (hA : A.depth + 20 < 900) (H : ∀ m, m ≤ 2 → Turn (itemsY ns) m (prev (itemsY ns) m)) (ok : (cX prog w A g L name (fScope (stAt 39)) fa cd [] [] os ban outs oenv).Ok)
    (hQ : ∀ st, Q (.ret (.bool true true)) st) :
    Es (cX prog w A g L name (fScope (stAt 39)) fa cd [] [] os ban outs oenv) (execs (fBody (stAt 39)) (Cx.env (cX prog w A g L name (fScope (stAt 39)) fa cd [] [] os ban outs oenv))) ⟨[("script", .fz a (listO vs 0))], [], 0⟩ Q := by
  have hy := itemsY_len ns
  with_reducible refine Es.cut ok 30 2 (fun st => ∃ D, st = ⟨[("script", .fz a (listO vs 0)), ("items", .ref 0 D), ("text", .str false (itemsY ns))], [⟨0, D, .list (chars (itemsY ns))⟩], 1⟩) ?_ ?_
  · refine ⟨rfl, items_cl (good ok (by first | exact dp hA rfl | lia)) hv hn fun D => ?_⟩
    refine Me.join ?_
    refine ⟨rfl, Cl.join (l := (itemsY ns).map fun c => [c]) ⟨rfl, ?_, ?_, ?_⟩⟩
    · exact Strs.weak' (by refine rg List.map_map ?_; rfl)
    · refine rg (total_chars ..) ?_; unfold szB; refine (?_ : _ + _ * 0 ≤ _); lia
    rw [show (Str.ofString "").cps.toList = ([] : S) from rfl, glue_chars]
    exact ⟨_, .rfl, D, rfl⟩
  rintro st ⟨D, rfl⟩
  generalize itemsY ns = y at hy H
  refine blkR_ok (ev_ok ok 30) _ _ _ ?_
  refine Es.for ok (by intro _; rfl) ?_
  refine (ev_ok ok 30).e _ _ _ ?_
  refine fun aT => ?_
  refine It.list ⟨rfl, fun P => ?_⟩
  refine ⟨fun i st => st = ⟨[("script", .fz a (listO vs 0)), ("items", .ref 0 D), ("text", .str false (prev y i))], [⟨1, aT, .list [.int true 1, .int true 2, .int true 3]⟩, ⟨0, D, .list (chars y)⟩], 2⟩, 9, ⟨_, .rfl, rfl⟩, ?_, ?_, ?_⟩
  · rintro i st rfl
    exact ⟨rfl, rfl⟩
  · rintro i v st it rfl hv
    have hi : i ≤ 2 ∧ v = .int true ((i + 1 : Nat) : Int) := by
      match i with
      | 0 => (first | obtain ⟨_, rfl⟩ := VR.str' hv | obtain ⟨_, rfl⟩ := VR.int' hv | obtain rfl := VR.ref' hv | obtain rfl := VR.con' hv | obtain ⟨_, rfl, _⟩ := VR.bm' hv | obtain ⟨rfl, _⟩ := VR.fz' hv | obtain rfl := VR.bool' hv | obtain rfl := VR.none' hv | obtain rfl := Option.some.inj hv); exact ⟨by decide, rfl⟩
      | 1 => (first | obtain ⟨_, rfl⟩ := VR.str' hv | obtain ⟨_, rfl⟩ := VR.int' hv | obtain rfl := VR.ref' hv | obtain rfl := VR.con' hv | obtain ⟨_, rfl, _⟩ := VR.bm' hv | obtain ⟨rfl, _⟩ := VR.fz' hv | obtain rfl := VR.bool' hv | obtain rfl := VR.none' hv | obtain rfl := Option.some.inj hv); exact ⟨by decide, rfl⟩
      | 2 => (first | obtain ⟨_, rfl⟩ := VR.str' hv | obtain ⟨_, rfl⟩ := VR.int' hv | obtain rfl := VR.ref' hv | obtain rfl := VR.con' hv | obtain ⟨_, rfl, _⟩ := VR.bm' hv | obtain ⟨rfl, _⟩ := VR.fz' hv | obtain rfl := VR.bool' hv | obtain rfl := VR.none' hv | obtain rfl := Option.some.inj hv); exact ⟨by decide, rfl⟩
      | i + 3 => (first | obtain ⟨_, rfl⟩ := VR.str' hv | obtain ⟨_, rfl⟩ := VR.int' hv | obtain rfl := VR.ref' hv | obtain rfl := VR.con' hv | obtain ⟨_, rfl, _⟩ := VR.bm' hv | obtain ⟨rfl, _⟩ := VR.fz' hv | obtain rfl := VR.bool' hv | obtain rfl := VR.none' hv | exact nsE hv)
    obtain ⟨hi, rfl⟩ := hi
    obtain ⟨t1, t2, t3, us, t4, t5, t6, t7⟩ := H i hi
    refine blkR_ok (ev_ok ok 30) _ _ _ ?_
    refine Me.join ?_
    refine ⟨rfl, translate_cl (good ok (by first | exact dp hA rfl | lia)) t1 t2 ?_⟩
    refine ⟨rfl, quotedata_cl (good ok (by first | exact dp hA rfl | lia)) ?_ ?_⟩
    · have := trF_len (prev y i); lia
    have hb : (((i + 1 : Nat) : Int) == 2) = Nat.beq i 1 := by
      have : i = 0 ∨ i = 1 ∨ i = 2 := by lia
      rcases this with rfl | rfl | rfl <;> rfl
    refine ⟨rfl, split_cl (good ok (by first | exact dp hA rfl | lia)) (us := us) (by refine rg hb ?_; exact t4) t3 (by unfold szB; lia) fun l => ?_⟩
    refine ⟨rfl, Cl.join (l := us) ⟨rfl, Strs.map false us, t6, ?_⟩⟩
    refine ⟨rfl, told_cl (good ok (by first | exact dp hA rfl | lia)) hi hy rfl ?_⟩
    refine ⟨fun q => ?_, fun q => ?_⟩
    · exfalso
      have q : (!eqL (glue [10] us) (told y i)) = true := q
      replace q := (eqL_iff.mpr rfl) ▸ t7 ▸ q
      exact ftE q
    · refine ⟨_, ?_, rfl⟩
      exact Le.mk (.cons .rfl (.cons .rfl (.cons (SVle.str t7) .drop))) (.skip .rfl)
  · rintro st rfl
    refine blkR_ok (ev_ok ok 30) _ _ _ ?_
    exact hQ _
end
end Mine
end
end

section
open PySem PySem.W PySem.Calls PyProof.Rows
set_option autoImplicit false
set_option genSizeOf false
set_option genInjectivity false
set_option linter.unusedVariables false
namespace Mine
/-! the plain law: what the reader makes of an escaped text -/
noncomputable def nl (c : Nat) : Bool := c == 10 || c == 13
/-- no mark of the shell's -/
structure Plain (c : Nat) : Prop where
  ws : ws c = false
  c92 : c ≠ 92
  c39 : c ≠ 39
  c34 : c ≠ 34
  c35 : c ≠ 35
inductive Ez : S → Prop
  | last {c} : Plain c → Ez [c]
  | lastE {c} : nl c = false → Ez [92, c]
  | esc {c r} : Ez r → Ez (92 :: c :: r)
  | ch {c r} : Plain c → Ez r → Ez (c :: r)
noncomputable def DD : Bool → S → S
  | _, [] => []
  | b, 92 :: c :: r => match nl c with | true => 92 :: 13 :: 10 :: DD true r | false => 92 :: c :: DD false r
  | b, c :: r => (match b && c == 46 with | true => [46, 46] | false => [c]) ++ DD false r
noncomputable def GG : Bool → S → S
  | _, [] => []
  | b, 92 :: c :: r => match nl c with | true => [13, 10] ++ GG true r | false => c :: GG false r
  | b, c :: r => (match b && c == 46 with | true => [46, 46] | false => [c]) ++ GG false r
theorem Plain.nl {c : Nat} (h : Plain c) : nl c = false := by
  have h1 := h.ws
  unfold Mine.nl
  cases q : (c == 10 || c == 13) with
  | false => rfl
  | true =>
    simp at q
    rcases q with rfl | rfl
    · exact absurd h1 (by decide)
    · exact absurd h1 (by decide)
theorem nl_false {c : Nat} (h : nl c = false) : c ≠ 10 ∧ c ≠ 13 := by
  unfold nl at h; simp at h; exact h
theorem nl_true {c : Nat} (h : nl c = true) : c = 10 ∨ c = 13 := by
  unfold nl at h; simpa using h
theorem DD_ch {b : Bool} {c : Nat} {r : S} (h : c ≠ 92) : DD b (c :: r) = (match b && c == 46 with | true => [46, 46] | false => [c]) ++ DD false r := by
  induction r with
  | nil => induction b <;> simp [DD]
  | cons d r => conv => lhs; unfold DD
                split <;> simp_all
theorem DD_esc {b : Bool} {c : Nat} {r : S} : DD b (92 :: c :: r) = match nl c with | true => 92 :: 13 :: 10 :: DD true r | false => 92 :: c :: DD false r := by rw [DD]
theorem GG_esc {b : Bool} {c : Nat} {r : S} : GG b (92 :: c :: r) = match nl c with | true => [13, 10] ++ GG true r | false => c :: GG false r := by rw [GG]
theorem GG_ch {b : Bool} {c : Nat} {r : S} (h : c ≠ 92) : GG b (c :: r) = (match b && c == 46 with | true => [46, 46] | false => [c]) ++ GG false r := by
  induction r with
  | nil => induction b <;> simp [GG]
  | cons d r => conv => lhs; unfold GG
                split <;> simp_all
theorem crlf_ch {c : Nat} {r : S} (h : nl c = false) : crlf (c :: r) = c :: crlf r := by
  have := nl_false h
  conv => lhs; unfold crlf
  split <;> simp_all
theorem crlf_nl {c : Nat} {r : S} (h : nl c = true) (hr : ∀ r', r ≠ 10 :: r') : crlf (c :: r) = 13 :: 10 :: crlf r := by
  have := nl_true h
  conv => lhs; unfold crlf
  split
  · rename_i r' e; simp at e; exact absurd e.2 (hr _)
  · rename_i e; simp at e; obtain ⟨rfl, rfl⟩ := e; refine rg (if_pos this.symm) ?_; rfl
  · rename_i e; exact cnE e
theorem Ez.head {r : S} (h : Ez r) : ∀ r', r ≠ 10 :: r' := by
  intro r' e
  induction h with
  | last hc => cases e; exact absurd hc.ws (by decide)
  | lastE _ => cases e
  | esc _ => cases e
  | ch hc _ => cases e; exact absurd hc.ws (by decide)
theorem dots_ne {b : Bool} {c : Nat} {r : S} (h : c ≠ 46) : dots b (c :: r) = c :: dots (decide (c = 10)) r := by
  rw [dots, if_neg (fun q => h q.2)]
theorem dots_f {c : Nat} {r : S} : dots false (c :: r) = c :: dots (decide (c = 10)) r := by
  rw [dots, if_neg (fun q => by cases q.1)]
theorem Ez.qd {t : S} (h : Ez t) : ∀ b, dots b (crlf t) = DD b t := by
  induction h with
  | last hc =>
    intro b
    have e := hc.nl
    have := (nl_false e).1
    refine rg (crlf_ch e) (rg (DD_ch hc.c92) ?_)
    refine (?_ : dots b [_] = _)
    rename_i c
    by_cases q : b = true ∧ c = 46
    · (rewrite [dots]; refine rg (if_pos q) (rg (q.1 ..) (rg (q.2 ..) ?_))); rfl
    · (rewrite [dots]; refine rg (if_neg q) ?_)
      have : (b && c == 46) = false := by
        induction b <;> simp_all
      refine rg this ?_; rfl
  | lastE he =>
    rename_i c
    intro b
    have := (nl_false he).1
    refine rg (crlf_ch (by decide)) (rg (crlf_ch he) (rg (dots_ne (by decide)) (rg (show decide (92 = 10) = false from rfl) (rg dots_f ?_))))
    refine rg DD_esc (rg he ?_); rfl
  | esc hr ih =>
    rename_i c r
    intro b
    refine rg (crlf_ch (by decide)) (rg (dots_ne (by decide)) (rg (show decide (92 = 10) = false from rfl) ?_))
    cases q : nl c with
    | true =>
      rw [crlf_nl q hr.head, dots_f, show decide (13 = 10) = false from rfl, dots_f, show decide (10 = 10) = true from rfl, ih]
      rw [DD_esc, q]
    | false =>
      have := (nl_false q).1
      rw [crlf_ch q, dots_f, decide_eq_false this, ih]
      rw [DD_esc, q]
  | ch hc hr ih =>
    rename_i c r
    intro b
    have e := hc.nl
    have := (nl_false e).1
    refine rg (crlf_ch e) (rg (DD_ch hc.c92) ?_)
    by_cases q : b = true ∧ c = 46
    · (rewrite [dots]; refine rg (if_pos q) (rg (ih ..) (rg (q.1 ..) (rg (q.2 ..) ?_)))); rfl
    · (rewrite [dots]; refine rg (if_neg q) (rg (decide_eq_false this) (rg (ih ..) ?_)))
      have : (b && c == 46) = false := by
        induction b <;> simp_all
      refine rg this ?_; rfl
/-! the words -/
noncomputable def pre1 (s : S) : List S → List S
  | [] => [s]
  | u :: us => (s ++ u) :: us
noncomputable def wds : Bool → S → List S
  | _, [] => [[]]
  | b, 92 :: c :: r => match nl c with | true => [13] :: wds true r | false => pre1 [c] (wds false r)
  | b, c :: r => pre1 (match b && c == 46 with | true => [46, 46] | false => [c]) (wds false r)
theorem wds_esc {b : Bool} {c : Nat} {r : S} : wds b (92 :: c :: r) = match nl c with | true => [13] :: wds true r | false => pre1 [c] (wds false r) := by rw [wds]
theorem wds_ch {b : Bool} {c : Nat} {r : S} (h : c ≠ 92) : wds b (c :: r) = pre1 (match b && c == 46 with | true => [46, 46] | false => [c]) (wds false r) := by
  induction r with
  | nil => induction b <;> simp [wds]
  | cons d r => conv => lhs; unfold wds
                split <;> simp_all
theorem pre1_ne (s : S) (l : List S) : ∃ u us, pre1 s l = u :: us := by induction l <;> exact ⟨_, _, rfl⟩
theorem wds_ne : ∀ (b : Bool) (t : S), ∃ u us, wds b t = u :: us
  | _, [] => ⟨_, _, rfl⟩
  | b, c :: r => by
    by_cases h : c = 92
    · subst h
      induction r with
      | nil => induction b <;> exact ⟨_, _, rfl⟩
      | cons c r =>
        refine rg wds_esc ?_
        cases nl c with
        | true => exact ⟨_, _, rfl⟩
        | false => exact pre1_ne _ _
    · refine rg (wds_ch h) ?_; exact pre1_ne _ _
theorem glue_pre1 (s : S) : ∀ l : List S, glue [10] (pre1 s l) = s ++ glue [10] l
  | [] => by refine (?_ : s = s ++ []); simp
  | u :: us => by
    refine (?_ : glueF [10] (s ++ u) us = s ++ glueF [10] u us)
    exact rg (glueF_eq ..) (rg (glueF_eq ..) (rg (List.append_assoc ..) rfl))
theorem glue_cons10 (s u : S) (us : List S) : glue [10] (s :: u :: us) = s ++ [10] ++ glue [10] (u :: us) := by
  refine (?_ : glueF [10] (s ++ [10] ++ u) us = s ++ [10] ++ glueF [10] u us)
  exact rg (glueF_eq ..) (rg (glueF_eq ..) (rg (List.append_assoc ..) rfl))
theorem Ez.glued {t : S} (h : Ez t) : ∀ b, glue [10] (wds b t) = GG b t := by
  induction h with
  | last hc => intro b; rw [wds_ch hc.c92, GG_ch hc.c92, glue_pre1]; induction b <;> rfl
  | lastE he => intro b; refine rg wds_esc (rg GG_esc (rg he ?_)); induction b <;> rfl
  | esc hr ih =>
    rename_i c r
    intro b
    refine rg wds_esc (rg GG_esc ?_)
    cases q : nl c with
    | true =>
      obtain ⟨u, us, e⟩ := wds_ne true r
      refine (?_ : glue [10] ([13] :: wds true r) = [13, 10] ++ GG true r)
      rw [e, glue_cons10, ← e, ih]; rfl
    | false =>
      refine (?_ : glue [10] (pre1 [c] (wds false r)) = _)
      refine rg (glue_pre1 ..) (rg (ih ..) ?_); rfl
  | ch hc hr ih => intro b; rw [wds_ch hc.c92, GG_ch hc.c92, glue_pre1, ih]
theorem Ez.okd {com t : S} (hcom : ∀ c ∈ com, c = 35) (h : Ez t) : ∀ b, okT com (DD b t) := by
  have hm : ∀ c, c ≠ 35 → mbr c com = false := fun c hc => by
    cases q : mbr c com with
    | false => rfl
    | true => exact absurd (hcom c (mbr_iff.mp q)) hc
  have pl : ∀ {c : Nat} {r : S}, Plain c → Mine.okT com r → Mine.okT com (c :: r) := fun {c r} hc hr => by
    have h92 := hc.c92
    unfold Mine.okT
    split
    · trivial
    · rename_i e; simp at e; exact absurd e.1 h92
    · rename_i e; simp at e; obtain ⟨rfl, rfl⟩ := e; exact ⟨hc.c92, hc.c39, hc.c34, hm _ hc.c35, hr⟩
  have one : ∀ {c : Nat} {r : S} (b : Bool), Plain c → Mine.okT com r → Mine.okT com ((match b && c == 46 with | true => [46, 46] | false => [c]) ++ r) := fun {c r} b hc hr => by
    cases q : b && c == 46 with
    | true =>
      have : c = 46 := by simp at q; exact q.2
      subst this
      exact pl hc (pl hc hr)
    | false => exact pl hc hr
  have es : ∀ {c : Nat} {r : S}, Mine.okT com r → Mine.okT com (92 :: c :: r) := fun {c r} hr => by rw [Mine.okT]; exact hr
  induction h with
  | last hc => intro b; refine rg (DD_ch hc.c92) ?_; exact one b hc trivial
  | lastE he => intro b; refine rg DD_esc (rg he ?_); exact es trivial
  | esc hr ih =>
    rename_i c r
    intro b
    refine rg DD_esc ?_
    cases nl c with
    | true =>
      refine es ?_
      have : Mine.okT com (10 :: DD true r) = (10 ≠ 92 ∧ 10 ≠ 39 ∧ 10 ≠ 34 ∧ mbr 10 com = false ∧ Mine.okT com (DD true r)) := by
        conv => lhs; unfold Mine.okT
        split <;> simp_all
      refine rg this ?_
      exact ⟨by decide, by decide, by decide, hm _ (by decide), ih true⟩
    | false => exact es (ih false)
  | ch hc hr ih => intro b; refine rg (DD_ch hc.c92) ?_; exact one b hc (ih false)
theorem Ez.start {t : S} (h : Ez t) (b : Bool) : nextW none (DD b t) = nextW (some []) (DD b t) := by
  have one : ∀ {c : Nat} {r : S}, Plain c → nextW none (c :: r) = nextW (some []) (c :: r) := fun hc => by refine rg (nextW_ch hc.c92 hc.ws) (rg (nextW_wch hc.c92 hc.ws) ?_); rfl
  have ch : ∀ {c : Nat} {r : S}, Plain c → nextW none ((match b && c == 46 with | true => [46, 46] | false => [c]) ++ r) = nextW (some []) ((match b && c == 46 with | true => [46, 46] | false => [c]) ++ r) := fun {c r} hc => by
    cases q : b && c == 46 with
    | true =>
      have : c = 46 := by simp at q; exact q.2
      subst this
      exact one hc
    | false => exact one hc
  induction h with
  | last hc => refine rg (DD_ch hc.c92) ?_; exact ch hc
  | lastE he => refine rg DD_esc (rg he ?_); refine (?_ : nextW none (92 :: _ :: _) = _); (rewrite [nextW_esc]; refine rg (nextW_esc ..) ?_); rfl
  | esc hr =>
    refine rg DD_esc ?_
    cases nl _ with
    | true => refine (?_ : nextW none (92 :: _ :: _) = nextW _ (92 :: _ :: _)); (rewrite [nextW_esc]; refine rg (nextW_esc ..) ?_); rfl
    | false => refine (?_ : nextW none (92 :: _ :: _) = nextW _ (92 :: _ :: _)); rw [nextW_esc, nextW_esc]; rfl
  | ch hc hr => refine rg (DD_ch hc.c92) ?_; exact ch hc
/-- the words of what stands behind a beginning -/
theorem Ez.next {com t : S} (hcom : ∀ c ∈ com, c = 35) (h : Ez t) : ∀ (b : Bool) (cur : S), (∃ u, wds b t = [u] ∧ nextW (some cur) (DD b t) = (some (cur ++ u), true, [])) ∨
    (∃ u us r', wds b t = u :: us ∧ nextW (some cur) (DD b t) = (some (cur ++ u), false, r') ∧ Words com r' us) := by
  have wch : ∀ {c : Nat} {r : S} (b : Bool) (cur : S), Plain c → nextW (some cur) ((match b && c == 46 with | true => [46, 46] | false => [c]) ++ r) = nextW (some (cur ++ (match b && c == 46 with | true => [46, 46] | false => [c]))) r := fun {c r} b cur hc => by
    cases q : b && c == 46 with
    | true =>
      have : c = 46 := by simp at q; exact q.2
      subst this
      refine (?_ : nextW (some cur) (46 :: 46 :: r) = _)
      rw [nextW_wch hc.c92 hc.ws, nextW_wch hc.c92 hc.ws, List.append_assoc]; rfl
    | false => exact nextW_wch hc.c92 hc.ws
  have nil : ∀ cur : S, nextW (some cur) [] = (some cur, true, []) := fun cur => by rw [nextW]
  induction h with
  | last hc =>
    intro b cur
    left
    refine ⟨_, by refine rg (wds_ch hc.c92) ?_; rfl, ?_⟩
    rw [DD_ch hc.c92, wch b cur hc, show DD false [] = [] from rfl, nil]
    simp [pre1]
  | lastE he =>
    rename_i c
    intro b cur
    left
    refine ⟨[c], by refine rg wds_esc (rg he ?_); rfl, ?_⟩
    rw [DD_esc, he, nextW_esc, show DD false [] = [] from rfl, nil]; rfl
  | esc hr ih =>
    rename_i c r
    intro b cur
    cases q : nl c with
    | true =>
      right
      refine ⟨[13], wds true r, DD true r, by exact rg wds_esc (rg q rfl), by refine rg DD_esc (rg q ?_); refine (?_ : nextW _ (92 :: 13 :: 10 :: _) = _); refine rg nextW_esc (rg (nextW_wws (by decide)) ?_); rfl, ?_⟩
      have ok := hr.okd hcom true
      have st := hr.start true
      rcases ih true [] with ⟨u, h1, h2⟩ | ⟨u, us, r', h1, h2, h3⟩
      · refine rg h1 ?_; exact .last ok (st.trans h2)
      · refine rg h1 ?_; exact .more ok (st.trans h2) h3
    | false =>
      have e1 : DD b (92 :: c :: r) = 92 :: c :: DD false r := by exact rg DD_esc (rg q rfl)
      have e2 : wds b (92 :: c :: r) = pre1 [c] (wds false r) := by exact rg wds_esc (rg q rfl)
      refine rg e1 (rg e2 (rg nextW_esc ?_))
      rcases ih false (cur ++ [c]) with ⟨u, h1, h2⟩ | ⟨u, us, r', h1, h2, h3⟩
      · exact .inl ⟨[c] ++ u, by refine rg h1 ?_; rfl, by refine (?_ : nextW (some (cur ++ [c])) _ = _); rw [h2, List.append_assoc]⟩
      · exact .inr ⟨[c] ++ u, us, r', by refine rg h1 ?_; rfl, by refine (?_ : nextW (some (cur ++ [c])) _ = _); rw [h2, List.append_assoc], h3⟩
  | ch hc hr ih =>
    rename_i c r
    intro b cur
    refine rg (DD_ch hc.c92) (rg (wds_ch hc.c92) (rg (wch b cur hc) ?_))
    generalize (match b && c == 46 with | true => [46, 46] | false => [c] : S) = z
    rcases ih false (cur ++ z) with ⟨u, h1, h2⟩ | ⟨u, us, r', h1, h2, h3⟩
    · exact .inl ⟨z ++ u, by refine rg h1 ?_; rfl, by rw [h2, List.append_assoc]⟩
    · exact .inr ⟨z ++ u, us, r', by refine rg h1 ?_; rfl, by rw [h2, List.append_assoc], h3⟩
theorem Ez.words {com t : S} (hcom : ∀ c ∈ com, c = 35) (h : Ez t) (b : Bool) : Words com (DD b t) (wds b t) := by
  have ok := h.okd hcom b
  have st := h.start b
  rcases h.next hcom b [] with ⟨u, h1, h2⟩ | ⟨u, us, r', h1, h2, h3⟩
  · refine rg h1 ?_; exact .last ok (st.trans h2)
  · refine rg h1 ?_; exact .more ok (st.trans h2) h3
end Mine
end

section
open PySem PySem.W PySem.Calls PyProof.Rows
set_option autoImplicit false
set_option genSizeOf false
set_option genInjectivity false
set_option linter.unusedVariables false
namespace Mine
/-! one turn of the law on plain text -/
inductive Tk where
  | nl
  | ch (s : S)
  | st (h : Bool)
noncomputable def hasSt : List Tk → Bool
  | [] => false
  | .st _ :: _ => true
  | .nl :: r => hasSt r
  | .ch _ :: r => hasSt r
noncomputable def qm (h : Bool) : S := match h with | true => [46, 46] | false => [46]
noncomputable def tok : Bool → Bool → S → List Tk
  | _, _, [] => []
  | h, l, c :: r => match c == 42 with
    | true => (match l with | true => [] | false => [.st h]) ++ tok false true r
    | false => match nl c with
      | true => .nl :: tok true false r
      | false => .ch (match c == 63 with | true => qm h | false => [c]) :: tok false false r
noncomputable def SS (m : Nat) : Bool → Bool → Bool → S
  | true, false, _ => rep m (codes "(.>.") ++ codes "(?>.*?" ++ rep m (codes ".")
  | false, false, _ => rep m (codes ")(.>.") ++ codes ")(?>.*?" ++ rep m (codes ".")
  | false, true, _ => rep m (codes ").") ++ codes ").*"
  | true, true, h => rep (m + 1) (codes ".") ++ (match h with | true => codes "." | false => []) ++ codes "*"
noncomputable def KK (m : Nat) : Bool → List Tk → S
  | _, [] => []
  | seen, .nl :: r => rep (2 ^ m) [13, 10] ++ KK m seen r
  | seen, .ch s :: r => s ++ KK m seen r
  | seen, .st h :: r => SS m (!seen) (!hasSt r) h ++ KK m true r
noncomputable def hs : List (Option S) → Bool
  | [] => false
  | none :: _ => true
  | some _ :: r => hs r
noncomputable def SR (seen l : Bool) : S := (match seen with | true => codes ")" | false => []) ++ (match l with | true => codes ".*" | false => codes "(?>.*?")
noncomputable def KR : Bool → List (Option S) → S
  | _, [] => []
  | seen, some s :: r => s ++ KR seen r
  | seen, none :: r => SR seen (!hs r) ++ KR true r
theorem joinG_KR : ∀ ps : List (Option S), (joinG none ps).flatten = KR false ps ∧ ∀ f : List S, (joinG (some f) ps).flatten = (match hs ps with | true => codes "(?>.*?" | false => codes ".*") ++ f.flatten ++ KR true ps
  | [] => ⟨rfl, fun f => by
      induction f with
      | nil => rfl
      | cons x f =>
        refine (?_ : ([codes ".*", glue [] (x :: f)] : List S).flatten = codes ".*" ++ (x :: f).flatten ++ [])
        refine rg (glue_nil ..) ?_; simp⟩
  | some s :: r => ⟨by
      refine (?_ : (s :: joinG none r).flatten = s ++ KR false r)
      exact rg List.flatten_cons (rg ((joinG_KR r).1) rfl), fun f => by
      show (joinG (some (f ++ [s])) r).flatten = (match hs r with | true => codes "(?>.*?" | false => codes ".*") ++ f.flatten ++ (s ++ KR true r)
      rw [(joinG_KR r).2, List.flatten_append]
      simp⟩
  | none :: r => ⟨by
      show (joinG (some []) r).flatten = SR false (!hs r) ++ KR true r
      rw [(joinG_KR r).2]
      unfold SR
      cases hs r <;> simp, fun f => by
      show ((codes "(?>.*?" ++ glue [] f ++ codes ")") :: joinG (some []) r).flatten = codes "(?>.*?" ++ f.flatten ++ (SR true (!hs r) ++ KR true r)
      rw [List.flatten_cons, (joinG_KR r).2, glue_nil]
      unfold SR
      cases hs r <;> simp⟩
theorem partsF_ch {l : Bool} {c : Nat} {r : S} (h : c ≠ 42) : partsF l (c :: r) = some (if c = 63 then [46] else esc1 spc c) :: partsF false r := by
  (rewrite [partsF]; refine rg (if_neg h) ?_)
  split <;> rfl
theorem partsF_st {l : Bool} {r : S} : partsF l (42 :: r) = match l with | true => partsF true r | false => none :: partsF true r := by
  (rewrite [partsF]; refine rg (if_pos rfl) ?_)
  induction l <;> rfl
theorem hs_tok : ∀ (p : S) (h l : Bool), hs (partsF l p) = hasSt (tok h l p)
  | [], _, _ => rfl
  | c :: r, h, l => by
    unfold tok
    by_cases e : c = 42
    · subst e
      refine rg partsF_st ?_
      induction l with
      | true => exact hs_tok r false true
      | false => rfl
    · refine rg (partsF_ch e) ?_
      have : (c == 42) = false := by simpa using e
      refine rg this ?_
      cases nl c with
      | true => exact hs_tok r true false
      | false => exact hs_tok r false false
theorem GG41 {b : Bool} {z : S} : GG b (41 :: z) = 41 :: GG false z := by
  refine rg (GG_ch (by decide)) ?_; induction b <;> rfl
theorem GGc {b : Bool} {c : Nat} {z : S} (h1 : c ≠ 92) (h2 : c ≠ 46) : GG b (c :: z) = c :: GG false z := by
  refine rg (GG_ch h1) ?_
  have : (b && c == 46) = false := by induction b <;> simp [h2]
  refine rg this ?_; rfl
theorem GG46 {b : Bool} {z : S} : GG b (46 :: z) = qm b ++ GG false z := by
  refine rg (GG_ch (by decide)) ?_; induction b <;> rfl
theorem spc_of {c : Nat} (h : c = 92 ∨ c = 10 ∨ c = 13 ∨ c = 46 ∨ c = 32 ∨ c = 9 ∨ c = 35) : spc c = true := by
  rcases h with rfl | rfl | rfl | rfl | rfl | rfl | rfl <;> decide
theorem spc_nl {c : Nat} (h : nl c = true) : spc c = true := by
  rcases nl_true h with rfl | rfl <;> rfl
theorem ws_spc {c : Nat} (h : spc c = false) : ws c = false := by
  cases q : ws c with
  | false => rfl
  | true =>
    unfold ws at q
    have := mbr_iff.mp q
    simp at this
    have : spc c = true := spc_of (by rcases this with rfl | rfl | rfl | rfl <;> decide)
    replace this := h ▸ this; exact ftE this
theorem GG_SR {h seen l : Bool} {z : S} : GG h (SR seen l ++ z) = SS 0 (!seen) l h ++ GG false z := by
  induction seen <;> induction l
  · refine (?_ : GG h (40 :: 63 :: 62 :: 46 :: 42 :: 63 :: z) = _)
    refine rg (GGc (by decide) (by decide)) (rg (GGc (by decide) (by decide)) (rg (GGc (by decide) (by decide)) (rg GG46 (rg (GGc (by decide) (by decide)) (rg (GGc (by decide) (by decide)) ?_))))); rfl
  · refine (?_ : GG h (46 :: 42 :: z) = _)
    refine rg GG46 (rg (GGc (by decide) (by decide)) ?_)
    induction h <;> rfl
  · refine (?_ : GG h (41 :: 40 :: 63 :: 62 :: 46 :: 42 :: 63 :: z) = _)
    refine rg GG41 (rg (GGc (by decide) (by decide)) (rg (GGc (by decide) (by decide)) (rg (GGc (by decide) (by decide)) (rg GG46 (rg (GGc (by decide) (by decide)) (rg (GGc (by decide) (by decide)) ?_)))))); rfl
  · refine (?_ : GG h (41 :: 46 :: 42 :: z) = _)
    refine rg GG41 (rg GG46 (rg (GGc (by decide) (by decide)) ?_)); rfl
theorem GG_parts (z : S) : ∀ (p : S) (h l seen : Bool), (l = true → h = false) → GG h (KR seen (partsF l p) ++ 41 :: z) = KK 0 seen (tok h l p) ++ GG false (41 :: z)
  | [], h, l, seen, _ => by
    refine (?_ : GG h (41 :: z) = GG false (41 :: z))
    exact rg GG41 (rg GG41 rfl)
  | c :: r, h, l, seen, hl => by
    unfold tok
    by_cases e : c = 42
    · subst e
      refine rg partsF_st ?_
      induction l with
      | true =>
        have := hl rfl
        subst this
        exact GG_parts z r false true seen fun _ => rfl
      | false =>
        refine (?_ : GG h (SR seen (!hs (partsF true r)) ++ KR true (partsF true r) ++ 41 :: z) = SS 0 (!seen) (!hasSt (tok false true r)) h ++ KK 0 true (tok false true r) ++ GG false (41 :: z))
        exact rg (List.append_assoc ..) (rg (GG_SR ..) (rg (GG_parts z r false true true fun _ => rfl) (rg (hs_tok r false true) (rg (List.append_assoc ..) rfl))))
    · refine rg (partsF_ch e) ?_
      have e' : (c == 42) = false := by simpa using e
      refine rg e' ?_
      refine (?_ : GG h ((if c = 63 then [46] else esc1 spc c) ++ KR seen (partsF false r) ++ 41 :: z) = _)
      refine rg (List.append_assoc ..) ?_
      cases q : nl c with
      | true =>
        have hc : c ≠ 63 := fun x => by subst x; exact ftE q
        have hs : spc c = true := spc_nl q
        refine rg (if_neg hc) ?_
        have : esc1 spc c = [92, c] := by unfold esc1; exact rg hs rfl
        refine rg this ?_
        refine (?_ : GG h (92 :: c :: (KR seen (partsF false r) ++ 41 :: z)) = _)
        refine rg GG_esc (rg q ?_)
        refine (?_ : [13, 10] ++ GG true _ = rep (2 ^ 0) [13, 10] ++ KK 0 seen (tok true false r) ++ GG false (41 :: z))
        refine rg (GG_parts z r true false seen (fun x => by exact ftE x)) ?_
        rfl
      | false =>
        refine (?_ : _ = (match c == 63 with | true => qm h | false => [c]) ++ KK 0 seen (tok false false r) ++ GG false (41 :: z))
        by_cases h63 : c = 63
        · have : (c == 63) = true := by simpa using h63
          refine rg this (rg (if_pos h63) ?_)
          refine (?_ : GG h (46 :: (KR seen (partsF false r) ++ 41 :: z)) = _)
          rw [GG46, GG_parts z r false false seen (fun x => by exact ftE x), List.append_assoc]
        · have : (c == 63) = false := by simpa using h63
          refine rg this (rg (if_neg h63) ?_)
          unfold esc1
          cases hs : spc c with
          | true =>
            refine (?_ : GG h (92 :: c :: (KR seen (partsF false r) ++ 41 :: z)) = _)
            refine rg GG_esc (rg q ?_)
            refine (?_ : c :: GG false _ = _)
            refine rg (GG_parts z r false false seen (fun x => by exact ftE x)) ?_; rfl
          | false =>
            have h92 : c ≠ 92 := fun x => by replace hs := (spc_of (.inl x)) ▸ hs; exact tfE hs
            have h46 : c ≠ 46 := fun x => by subst x; exact tfE hs
            refine (?_ : GG h (c :: (KR seen (partsF false r) ++ 41 :: z)) = _)
            refine rg (GGc h92 h46) (rg (GG_parts z r false false seen (fun x => by exact ftE x)) ?_); rfl
theorem pl {c : Nat} (h : (ws c || c == 92 || c == 39 || c == 34 || c == 35) = false) : Plain c := by
  simp at h
  exact ⟨h.1.1.1.1, h.1.1.1.2, h.1.1.2, h.1.2, h.2⟩
theorem Ez_SR {seen l : Bool} {z : S} (h : Ez z) : Ez (SR seen l ++ z) := by
  induction seen <;> induction l
  · exact .ch (pl rfl) (.ch (pl rfl) (.ch (pl rfl) (.ch (pl rfl) (.ch (pl rfl) (.ch (pl rfl) h)))))
  · exact .ch (pl rfl) (.ch (pl rfl) h)
  · exact .ch (pl rfl) (.ch (pl rfl) (.ch (pl rfl) (.ch (pl rfl) (.ch (pl rfl) (.ch (pl rfl) (.ch (pl rfl) h))))))
  · exact .ch (pl rfl) (.ch (pl rfl) (.ch (pl rfl) h))
theorem Ez_parts {z : S} (hz : Ez z) : ∀ (p : S) (l seen : Bool), (∀ c ∈ p, c ≠ 34 ∧ c ≠ 39) → Ez (KR seen (partsF l p) ++ z)
  | [], _, _, _ => hz
  | c :: r, l, seen, hp => by
    have ih := fun l seen => Ez_parts hz r l seen fun c hc => hp c (.tail _ hc)
    have hc := hp c (.head _)
    by_cases e : c = 42
    · subst e
      refine rg partsF_st ?_
      induction l with
      | true => exact ih true seen
      | false =>
        refine (?_ : Ez (SR _ _ ++ KR _ _ ++ z))
        refine rg (List.append_assoc ..) ?_
        exact Ez_SR (ih true true)
    · refine rg (partsF_ch e) ?_
      refine (?_ : Ez ((if c = 63 then [46] else esc1 spc c) ++ KR seen (partsF false r) ++ z))
      refine rg (List.append_assoc ..) ?_
      by_cases h63 : c = 63
      · refine rg (if_pos h63) ?_; exact .ch (pl rfl) (ih false seen)
      · refine rg (if_neg h63) ?_
        unfold esc1
        cases hs : spc c with
        | true => exact .esc (ih false seen)
        | false =>
          refine .ch ⟨ws_spc hs, fun x => ?_, hc.2, hc.1, fun x => ?_⟩ (ih false seen)
          · replace hs := (spc_of (.inl x)) ▸ hs; exact tfE hs
          · rw [spc_of (by lia)] at hs; exact tfE hs
theorem trF_eq (p : S) : trF p = 40 :: 63 :: 115 :: 58 :: (KR false (partsF false p) ++ [41, 92, 90]) := by
  unfold trF
  refine rg (glue_nil ..) (rg ((joinG_KR _).1) ?_)
  rfl
theorem trF_Ez {p : S} (hp : ∀ c ∈ p, c ≠ 34 ∧ c ≠ 39) : Ez (trF p) := by
  refine rg (trF_eq ..) ?_
  exact .ch (pl rfl) (.ch (pl rfl) (.ch (pl rfl) (.ch (pl rfl) (Ez_parts (.ch (pl rfl) (.lastE rfl)) p false false hp))))
theorem trF_GG (p : S) : GG true (trF p) = codes "(?s:" ++ KK 0 false (tok false false p) ++ codes ")Z" := by
  refine rg (trF_eq ..) (rg (GGc (by decide) (by decide)) (rg (GGc (by decide) (by decide)) (rg (GGc (by decide) (by decide)) (rg (GGc (by decide) (by decide)) (rg (GG_parts _ _ _ _ _ (fun x => by exact ftE x)) ?_)))))
  rfl
/-- what a turn makes of a text -/
theorem turn_of {com p : S} (hcom : ∀ c ∈ com, c = 35) (hp : ∀ c ∈ p, c ≠ 34 ∧ c ≠ 39) : ∃ us, Words com (qdF (trF p)) us ∧ us ≠ [] ∧ glue [10] us = codes "(?s:" ++ KK 0 false (tok false false p) ++ codes ")Z" := by
  have h := trF_Ez hp
  have e : qdF (trF p) = DD true (trF p) := h.qd true
  refine rg e ?_
  refine ⟨wds true (trF p), h.words hcom true, ?_, ?_⟩
  · obtain ⟨u, us, e⟩ := wds_ne true (trF p)
    refine rg e ?_; exact List.cons_ne_nil _ _
  · exact rg (h.glued ..) (rg (trF_GG ..) rfl)
end Mine
end

section
open PySem PySem.W PySem.Calls PyProof.Rows
set_option autoImplicit false
set_option linter.unusedVariables false
namespace Mine
/-! from one turn's text to the next -/
noncomputable def nst (x : S) : Prop := ∀ c r, x = c :: r → c ≠ 42 ∧ c ≠ 63
theorem tok_eq {h l : Bool} {c : Nat} {r : S} : tok h l (c :: r) = match c == 42 with
    | true => (match l with | true => [] | false => [.st h]) ++ tok false true r
    | false => match nl c with
      | true => .nl :: tok true false r
      | false => .ch (match c == 63 with | true => qm h | false => [c]) :: tok false false r := rfl
theorem tok_c {h l : Bool} {c : Nat} {r : S} (h42 : c ≠ 42) (hn : nl c = false) : tok h l (c :: r) = .ch (match c == 63 with | true => qm h | false => [c]) :: tok false false r := by
  refine rg tok_eq ?_
  have : (c == 42) = false := by simpa using h42
  exact rg this (rg hn rfl)
theorem tok_nl {h l : Bool} {c : Nat} {r : S} (hn : nl c = true) : tok h l (c :: r) = .nl :: tok true false r := by
  refine rg tok_eq ?_
  have h42 : c ≠ 42 := fun x => by subst x; exact ftE hn
  have : (c == 42) = false := by simpa using h42
  exact rg this (rg hn rfl)
theorem tok_st {h l : Bool} {r : S} : tok h l (42 :: r) = (match l with | true => [] | false => [.st h]) ++ tok false true r := by
  refine rg tok_eq ?_; rfl
theorem tok_n {x : S} (hx : nst x) (h l : Bool) : tok h l x = tok false false x := by
  induction x with
  | nil => rfl
  | cons c r =>
    obtain ⟨h1, h2⟩ := hx c r rfl
    cases q : nl c with
    | true => exact rg (tok_nl q) (rg (tok_nl q) rfl)
    | false =>
      refine rg (tok_c h1 q) (rg (tok_c h1 q) ?_)
      have : (c == 63) = false := by simpa using h2
      exact rg this rfl
theorem tok_l {x : S} (hx : ∀ r, x ≠ 42 :: r) : tok false true x = tok false false x := by
  induction x with
  | nil => rfl
  | cons c r =>
    have h1 : c ≠ 42 := fun e => hx r (by exact rg e rfl)
    cases q : nl c with
    | true => exact rg (tok_nl q) (rg (tok_nl q) rfl)
    | false => exact rg (tok_c h1 q) (rg (tok_c h1 q) rfl)
noncomputable def dq (s : S) : S := s.map fun c => if c = 63 then 46 else c
theorem dq_app (a b : S) : dq (a ++ b) = dq a ++ dq b := by unfold dq; exact rg List.map_append rfl
theorem dq_rep (m : Nat) (x : S) : dq (rep m x) = rep m (dq x) := by
  unfold rep
  induction m with
  | zero => rfl
  | succ m ih => rw [List.replicate_succ, List.replicate_succ, List.flatten_cons, List.flatten_cons, dq_app, ih]
theorem rep_s (m : Nat) (x : S) : rep (m + 1) x = x ++ rep m x := by unfold rep; exact rg List.replicate_succ (rg List.flatten_cons rfl)
theorem rep_t (m : Nat) (x : S) : rep (m + 1) x = rep m x ++ x := by
  unfold rep; refine rg List.replicate_succ' ?_; simp
theorem rep_all {m : Nat} {x : S} {p : Nat → Prop} (h : ∀ c ∈ x, p c) : ∀ c ∈ rep m x, p c := by
  induction m with
  | zero => intro c hc; cases hc
  | succ m ih =>
    intro c hc
    rw [rep_s] at hc
    rcases List.mem_append.mp hc with hc | hc
    · exact h c hc
    · exact ih c hc
noncomputable def pln (c : Nat) : Prop := c ≠ 42 ∧ nl c = false
theorem KK_plain {m : Nat} {w : S} : ∀ (s : S) (seen : Bool), (∀ c ∈ s, pln c) → KK m seen (tok false false (s ++ w)) = dq s ++ KK m seen (tok false false w) ∧ hasSt (tok false false (s ++ w)) = hasSt (tok false false w)
  | [], _, _ => ⟨rfl, rfl⟩
  | c :: s, seen, h => by
    obtain ⟨h1, h2⟩ := h c (.head _)
    obtain ⟨e1, e2⟩ := KK_plain s seen fun c hc => h c (.tail _ hc)
    refine (?_ : KK m seen (tok false false (c :: (s ++ w))) = _ ∧ hasSt (tok false false (c :: (s ++ w))) = _)
    refine rg (tok_c h1 h2) ?_
    refine ⟨?_, e2⟩
    refine (?_ : (match c == 63 with | true => qm false | false => [c]) ++ KK m seen (tok false false (s ++ w)) = dq (c :: s) ++ _)
    refine rg e1 ?_
    by_cases q : c = 63
    · subst q; rfl
    · have : (c == 63) = false := by simpa using q
      refine rg this ?_
      refine (?_ : [c] ++ (dq s ++ _) = ((if c = 63 then 46 else c) :: dq s) ++ _)
      refine rg (if_neg q) ?_; rfl
theorem KK_nls {w : S} (hw : nst w) : ∀ (k : Nat) (h l seen : Bool), KK 0 seen (tok h l (rep k [13, 10] ++ w)) = rep (2 * k) [13, 10] ++ KK 0 seen (tok false false w) ∧ hasSt (tok h l (rep k [13, 10] ++ w)) = hasSt (tok false false w)
  | 0, h, l, seen => by
    refine (?_ : KK 0 seen (tok h l w) = KK 0 seen _ ∧ hasSt (tok h l w) = _)
    rw [tok_n hw]; exact ⟨rfl, rfl⟩
  | k + 1, h, l, seen => by
    obtain ⟨e1, e2⟩ := KK_nls hw k true false seen
    refine rg (rep_s ..) ?_
    refine (?_ : KK 0 seen (tok h l (13 :: 10 :: (rep k [13, 10] ++ w))) = _ ∧ hasSt (tok h l (13 :: 10 :: (rep k [13, 10] ++ w))) = _)
    refine rg (tok_nl rfl) (rg (tok_nl rfl) ?_)
    refine ⟨?_, e2⟩
    refine (?_ : [13, 10] ++ ([13, 10] ++ KK 0 seen (tok true false (rep k [13, 10] ++ w))) = _)
    rw [e1, show 2 * (k + 1) = 2 * k + 1 + 1 by lia, rep_s, rep_s]
    simp
theorem KK_nost {m : Nat} : ∀ (V : List Tk), hasSt V = false → ∀ s s', KK m s V = KK m s' V
  | [], _, _, _ => rfl
  | .nl :: r, h, s, s' => by refine (?_ : _ ++ KK m s r = _ ++ KK m s' r); exact rg (KK_nost r h s s') rfl
  | .ch x :: r, h, s, s' => by refine (?_ : _ ++ KK m s r = _ ++ KK m s' r); exact rg (KK_nost r h s s') rfl
  | .st _ :: r, h, _, _ => by exact tfE h
noncomputable def GT : Tk → Prop
  | .ch s => s ≠ [] ∧ ∀ c ∈ s, pln c ∧ c ≠ 63
  | _ => True
theorem GT_tok : ∀ (p : S) (h l : Bool), ∀ t ∈ tok h l p, GT t
  | [], _, _, t, ht => by cases ht
  | c :: r, h, l, t, ht => by
    by_cases e : c = 42
    · subst e
      replace ht := tok_st ▸ ht
      rcases List.mem_append.mp ht with ht | ht
      · induction l with
        | true => cases ht
        | false => refine rg (List.mem_singleton.mp ht) ?_; trivial
      · exact GT_tok r _ _ t ht
    · cases q : nl c with
      | true =>
        replace ht := (tok_nl q) ▸ ht
        rcases List.mem_cons.mp ht with rfl | ht
        · trivial
        · exact GT_tok r _ _ t ht
      | false =>
        replace ht := (tok_c e q) ▸ ht
        rcases List.mem_cons.mp ht with rfl | ht
        · cases b : c == 63 with
          | true =>
            have hd : ∀ x ∈ qm h, pln x ∧ x ≠ 63 := by
              intro x hx
              have : x = 46 := by induction h <;> simpa [qm] using hx
              subst this; exact ⟨⟨by decide, rfl⟩, by decide⟩
            exact ⟨by induction h <;> exact List.cons_ne_nil _ _, hd⟩
          | false =>
            refine ⟨List.cons_ne_nil _ _, fun x hx => ?_⟩
            refine rg (List.mem_singleton.mp hx) ?_
            exact ⟨⟨e, q⟩, by simpa using b⟩
        · exact GT_tok r _ _ t ht
theorem SS_head {m : Nat} {f l h : Bool} : ∃ c r, SS m f l h = c :: r ∧ c ≠ 42 ∧ c ≠ 63 := by
  induction f <;> induction l
  · induction m with
    | zero => exact ⟨_, _, rfl, by decide, by decide⟩
    | succ m => show ∃ c r, rep (m + 1) _ ++ _ ++ _ = _ ∧ _; rw [rep_s]; exact ⟨_, _, rfl, by decide, by decide⟩
  · induction m with
    | zero => exact ⟨_, _, rfl, by decide, by decide⟩
    | succ m => show ∃ c r, rep (m + 1) _ ++ _ = _ ∧ _; rw [rep_s]; exact ⟨_, _, rfl, by decide, by decide⟩
  · induction m with
    | zero => exact ⟨_, _, rfl, by decide, by decide⟩
    | succ m => show ∃ c r, rep (m + 1) _ ++ _ ++ _ = _ ∧ _; rw [rep_s]; exact ⟨_, _, rfl, by decide, by decide⟩
  · show ∃ c r, rep (m + 1) _ ++ _ ++ _ = _ ∧ _; rw [rep_s]; exact ⟨_, _, rfl, by decide, by decide⟩
theorem nst_KK {m : Nat} {w : S} (hw : nst w) {ts : List Tk} (hg : ∀ t ∈ ts, GT t) (seen : Bool) : nst (KK m seen ts ++ w) := by
  induction ts with
  | nil => exact hw
  | cons t r =>
    intro c r' e
    induction t with
    | nl =>
      have e : rep (2 ^ m) [13, 10] ++ KK m seen r ++ w = c :: r' := e
      obtain ⟨k, hk⟩ : ∃ k, 2 ^ m = k + 1 := ⟨2 ^ m - 1, by have := Nat.two_pow_pos m; lia⟩
      rw [hk, rep_s] at e
      cases e
      exact ⟨by decide, by decide⟩
    | ch s =>
      obtain ⟨h1, h2⟩ := hg _ (.head _)
      induction s with
      | nil => exact absurd rfl h1
      | cons a s =>
        have e : a :: (s ++ KK m seen r ++ w) = c :: r' := e
        cases e
        have := h2 c (.head _)
        exact ⟨this.1.1, this.2⟩
    | st h =>
      obtain ⟨c', r'', e', h1, h2⟩ := @SS_head m (!seen) (!hasSt r) h
      have e : SS m (!seen) (!hasSt r) h ++ KK m true r ++ w = c :: r' := e
      replace e := e' ▸ e
      cases e
      exact ⟨h1, h2⟩
theorem pln_dec {x : S} (h : x.all (fun c => c != 42 && !nl c) = true) : ∀ c ∈ x, pln c := fun c hc => by
  have := List.all_eq_true.mp h c hc
  simp at this
  exact ⟨this.1, this.2⟩
theorem KK_star {w : S} {P Q : S} {seen : Bool} (hP : ∀ c ∈ P, pln c) (hP0 : nst (P ++ 42 :: (Q ++ w))) (hQ : ∀ c ∈ Q, pln c) (hw : ∀ r, Q ++ w ≠ 42 :: r) (h l : Bool) :
    KK 0 seen (tok h l (P ++ 42 :: (Q ++ w))) = dq P ++ SS 0 (!seen) (!hasSt (tok false false w)) false ++ dq Q ++ KK 0 true (tok false false w) ∧ hasSt (tok h l (P ++ 42 :: (Q ++ w))) = true := by
  rw [tok_n hP0]
  obtain ⟨e1, e2⟩ := KK_plain (m := 0) (w := 42 :: (Q ++ w)) P seen hP
  obtain ⟨e3, e4⟩ := KK_plain (m := 0) (w := w) Q true hQ
  refine rg e1 (rg e2 (rg tok_st (rg (tok_l hw) ?_)))
  refine ⟨?_, rfl⟩
  refine (?_ : dq P ++ (SS 0 (!seen) (!hasSt (tok false false (Q ++ w))) false ++ KK 0 true (tok false false (Q ++ w))) = _)
  refine rg e3 (rg e4 ?_)
  simp only [List.append_assoc]
theorem n42 {x w : S} (hw : nst w) (h : ∀ r, x ≠ 42 :: r) : ∀ r, x ++ w ≠ 42 :: r := by
  intro r e
  induction x with
  | nil => exact (hw 42 r e).1 rfl
  | cons a x =>
    cases e
    exact h _ rfl
theorem nst_of {x y : S} {c : Nat} {r : S} (e : x = c :: r) (h1 : c ≠ 42) (h2 : c ≠ 63) : nst (x ++ y) := by
  subst e
  intro c' r' e
  cases e
  exact ⟨h1, h2⟩
theorem rep_head {m : Nat} {x y : S} {c : Nat} {r r2 : S} (hx : x = c :: r) (hy : y = c :: r2) : ∃ r', rep m x ++ y = c :: r' := by
  subst hx hy
  induction m with
  | zero => exact ⟨r2, rfl⟩
  | succ m => refine rg (rep_s ..) ?_; exact ⟨_, rfl⟩
theorem app_all {p : Nat → Prop} {a b : S} (h1 : ∀ c ∈ a, p c) (h2 : ∀ c ∈ b, p c) : ∀ c ∈ a ++ b, p c := fun c hc => (List.mem_append.mp hc).elim (h1 c) (h2 c)
noncomputable def hdot (h : Bool) : S := match h with | true => codes "." | false => []
theorem SS_tt (m : Nat) (h : Bool) : SS m true true h = rep (m + 1) (codes ".") ++ hdot h ++ codes "*" := by induction h <;> rfl
theorem SS_step {m : Nat} {w : S} (hw : nst w) (seen l0 : Bool) (hl : l0 = !hasSt (tok false false w)) (hh h l : Bool) :
    KK 0 seen (tok h l (SS m (!seen) l0 hh ++ w)) = SS (m + 1) (!seen) l0 hh ++ KK 0 true (tok false false w) ∧ hasSt (tok h l (SS m (!seen) l0 hh ++ w)) = true := by
  have d2 : dq (codes "(.>.") = codes "(.>." := rfl
  have d3 : dq (codes ".") = codes "." := rfl
  have d4 : dq (codes ")(.>.") = codes ")(.>." := rfl
  have d5 : dq (codes ").") = codes ")." := rfl
  cases hs : seen <;> cases hl0 : l0
  · obtain ⟨r', hr'⟩ := @rep_head m (codes "(.>.") (codes "(?>.") 40 _ _ rfl rfl
    have := KK_star (w := w) (P := rep m (codes "(.>.") ++ codes "(?>.") (Q := codes "?" ++ rep m (codes ".")) (seen := false) (app_all (rep_all (pln_dec rfl)) (pln_dec rfl)) (nst_of hr' (by decide) (by decide)) (app_all (pln_dec rfl) (rep_all (pln_dec rfl)))
      (n42 hw fun r e => by cases e) h l
    have e : SS m true false hh ++ w = (rep m (codes "(.>.") ++ codes "(?>.") ++ 42 :: ((codes "?" ++ rep m (codes ".")) ++ w) := by
      show rep m (codes "(.>.") ++ codes "(?>.*?" ++ rep m (codes ".") ++ w = _
      rw [show codes "(?>.*?" = codes "(?>." ++ 42 :: codes "?" from rfl]
      simp
    refine ⟨?_, by refine rg (show (!false) = true from rfl) (rg e ?_); exact this.2⟩
    rw [show (!false) = true from rfl, e, this.1, ← hl, hl0, dq_app, dq_rep, dq_app, dq_rep, d2, d3]
    show _ = rep (m + 1) (codes "(.>.") ++ codes "(?>.*?" ++ rep (m + 1) (codes ".") ++ _
    rw [rep_t m (codes "(.>."), rep_s m (codes ".")]
    show _ ++ codes "(.>." ++ (rep 0 (codes "(.>.") ++ codes "(?>.*?" ++ rep 0 (codes ".")) ++ (codes "." ++ _) ++ _ = _
    simp [rep]
  · have hx : dq (hdot hh) = hdot hh := by induction hh <;> rfl
    have hd : ∀ c ∈ hdot hh, pln c := by induction hh <;> exact pln_dec rfl
    have this := KK_star (w := w) (P := rep (m + 1) (codes ".") ++ hdot hh) (Q := []) (seen := false) (app_all (rep_all (pln_dec rfl)) hd) (by refine rg (rep_s ..) ?_; exact nst_of rfl (by decide) (by decide)) (fun c hc => by cases hc)
      (n42 hw fun r e => by exact ncE e) h l
    have e : SS m true true hh ++ w = (rep (m + 1) (codes ".") ++ hdot hh) ++ 42 :: ([] ++ w) := by
      refine rg (SS_tt ..) (rg (show codes "*" = [42] from rfl) ?_)
      simp
    refine ⟨?_, by refine rg (show (!false) = true from rfl) (rg e ?_); exact this.2⟩
    rw [show (!false) = true from rfl, e, this.1, ← hl, hl0, dq_app, dq_rep, d3, hx, SS_tt, rep_t (m + 1) (codes ".")]
    show _ ++ (rep 1 (codes ".") ++ [] ++ codes "*") ++ [] ++ _ = _
    induction hh <;> simp [rep, codes, hdot]
  · obtain ⟨r', hr'⟩ := @rep_head m (codes ")(.>.") (codes ")(?>.") 41 _ _ rfl rfl
    have := KK_star (w := w) (P := rep m (codes ")(.>.") ++ codes ")(?>.") (Q := codes "?" ++ rep m (codes ".")) (seen := true) (app_all (rep_all (pln_dec rfl)) (pln_dec rfl)) (nst_of hr' (by decide) (by decide)) (app_all (pln_dec rfl) (rep_all (pln_dec rfl)))
      (n42 hw fun r e => by cases e) h l
    have e : SS m false false hh ++ w = (rep m (codes ")(.>.") ++ codes ")(?>.") ++ 42 :: ((codes "?" ++ rep m (codes ".")) ++ w) := by
      show rep m (codes ")(.>.") ++ codes ")(?>.*?" ++ rep m (codes ".") ++ w = _
      rw [show codes ")(?>.*?" = codes ")(?>." ++ 42 :: codes "?" from rfl]
      simp
    refine ⟨?_, by rw [show (!true) = false from rfl, e]; exact this.2⟩
    rw [show (!true) = false from rfl, e, this.1, ← hl, hl0, dq_app, dq_rep, dq_app, dq_rep, d3, d4]
    show _ = rep (m + 1) (codes ")(.>.") ++ codes ")(?>.*?" ++ rep (m + 1) (codes ".") ++ _
    rw [rep_t m (codes ")(.>."), rep_s m (codes ".")]
    show _ ++ codes ")(.>." ++ (rep 0 (codes ")(.>.") ++ codes ")(?>.*?" ++ rep 0 (codes ".")) ++ (codes "." ++ _) ++ _ = _
    simp [rep]
  · obtain ⟨r', hr'⟩ := @rep_head m (codes ").") (codes ").") 41 _ _ rfl rfl
    have := KK_star (w := w) (P := rep m (codes ").") ++ codes ").") (Q := []) (seen := true) (app_all (rep_all (pln_dec rfl)) (pln_dec rfl)) (nst_of hr' (by decide) (by decide)) (fun c hc => by cases hc)
      (n42 hw fun r e => by exact ncE e) h l
    have e : SS m false true hh ++ w = (rep m (codes ").") ++ codes ").") ++ 42 :: ([] ++ w) := by
      show rep m (codes ").") ++ codes ").*" ++ w = _
      rw [show codes ").*" = codes ")." ++ [42] from rfl]
      simp
    refine ⟨?_, by rw [show (!true) = false from rfl, e]; exact this.2⟩
    rw [show (!true) = false from rfl, e, this.1, ← hl, hl0, dq_app, dq_rep, d5]
    show _ = rep (m + 1) (codes ").") ++ codes ").*" ++ _
    rw [rep_t m (codes ").")]
    show _ ++ codes ")." ++ (rep 0 (codes ").") ++ codes ").*") ++ [] ++ _ = _
    simp [rep]
theorem KK_step {m : Nat} {w : S} (hw : nst w) (hn : hasSt (tok false false w) = false) : ∀ (ts : List Tk), (∀ t ∈ ts, GT t) → ∀ (h l seen : Bool),
    KK 0 seen (tok h l (KK m seen ts ++ w)) = KK (m + 1) seen ts ++ KK 0 true (tok false false w) ∧ hasSt (tok h l (KK m seen ts ++ w)) = hasSt ts
  | [], _, h, l, seen => by
    refine (?_ : KK 0 seen (tok h l w) = KK 0 true _ ∧ hasSt (tok h l w) = false)
    rw [tok_n hw]
    exact ⟨KK_nost _ hn _ _, hn⟩
  | t :: r, hg, h, l, seen => by
    have hr : ∀ t ∈ r, GT t := fun t ht => hg t (.tail _ ht)
    have nr := fun s => nst_KK (m := m) hw hr s
    induction t with
    | nl =>
      obtain ⟨e1, e2⟩ := KK_nls (nr seen) (2 ^ m) h l seen
      obtain ⟨e3, e4⟩ := KK_step hw hn r hr false false seen
      refine (?_ : KK 0 seen (tok h l (rep (2 ^ m) [13, 10] ++ KK m seen r ++ w)) = rep (2 ^ (m + 1)) [13, 10] ++ KK (m + 1) seen r ++ _ ∧ hasSt (tok h l (rep (2 ^ m) [13, 10] ++ KK m seen r ++ w)) = hasSt r)
      rw [List.append_assoc, e1, e2, e3, e4, Nat.pow_succ, Nat.mul_comm 2, List.append_assoc]
      exact ⟨rfl, rfl⟩
    | ch s =>
      obtain ⟨h1, h2⟩ := hg _ (.head _)
      have ns : nst (s ++ (KK m seen r ++ w)) := by
        induction s with
        | nil => exact absurd rfl h1
        | cons a s => exact nst_of rfl (h2 a (.head _)).1.1 (h2 a (.head _)).2
      obtain ⟨e1, e2⟩ := KK_plain (m := 0) (w := KK m seen r ++ w) s seen fun c hc => (h2 c hc).1
      obtain ⟨e3, e4⟩ := KK_step hw hn r hr false false seen
      have hd : dq s = s := by
        unfold dq
        refine (List.map_congr_left fun c hc => ?_).trans (List.map_id s)
        refine rg (if_neg (h2 c hc).2) ?_; rfl
      refine (?_ : KK 0 seen (tok h l (s ++ KK m seen r ++ w)) = s ++ KK (m + 1) seen r ++ _ ∧ hasSt (tok h l (s ++ KK m seen r ++ w)) = hasSt r)
      rw [List.append_assoc, tok_n ns, e1, e2, e3, e4, hd, List.append_assoc]
      exact ⟨rfl, rfl⟩
    | st hh =>
      obtain ⟨e3, e4⟩ := KK_step hw hn r hr false false true
      obtain ⟨e1, e2⟩ := SS_step (m := m) (nr true) seen (!hasSt r) (by exact rg e4 rfl) hh h l
      refine (?_ : KK 0 seen (tok h l (SS m (!seen) (!hasSt r) hh ++ KK m true r ++ w)) = SS (m + 1) (!seen) (!hasSt r) hh ++ KK (m + 1) true r ++ _ ∧ hasSt (tok h l (SS m (!seen) (!hasSt r) hh ++ KK m true r ++ w)) = true)
      refine rg (List.append_assoc ..) (rg (e1 ..) (rg (e2 ..) (rg (e3 ..) (rg (List.append_assoc ..) ?_))))
      exact ⟨rfl, rfl⟩
noncomputable def toldT (m : Nat) (ts : List Tk) : S := toldPre m ++ KK m false ts ++ rep (m + 1) (codes ")Z")
/-- the text of one more turn -/
theorem told_step {m : Nat} {ts : List Tk} (hg : ∀ t ∈ ts, GT t) : codes "(?s:" ++ KK 0 false (tok false false (toldT m ts)) ++ codes ")Z" = toldT (m + 1) ts := by
  have hw : nst (rep (m + 1) (codes ")Z")) := by refine rg (rep_s ..) ?_; exact nst_of rfl (by decide) (by decide)
  have pz : ∀ c ∈ rep (m + 1) (codes ")Z"), pln c := rep_all (pln_dec rfl)
  have e0 : toldT m ts = toldPre m ++ (KK m false ts ++ rep (m + 1) (codes ")Z")) := by unfold toldT; exact rg (List.append_assoc ..) rfl
  obtain ⟨e1, _⟩ := KK_plain (m := 0) (w := KK m false ts ++ rep (m + 1) (codes ")Z")) (toldPre m) false (app_all (pln_dec rfl) (rep_all (pln_dec rfl)))
  obtain ⟨z1, z2⟩ := KK_plain (m := 0) (w := []) (rep (m + 1) (codes ")Z")) true pz
  rw [List.append_nil] at z1 z2
  obtain ⟨e2, _⟩ := KK_step (m := m) hw z2 ts hg false false false
  refine rg e0 (rg e1 (rg e2 (rg z1 ?_)))
  have p1 : dq (toldPre m) = rep (m + 1) (codes "(.s:") := by
    unfold toldPre
    refine rg (dq_app ..) (rg (dq_rep ..) (rg (rep_s ..) ?_)); rfl
  have p2 : dq (rep (m + 1) (codes ")Z")) = rep (m + 1) (codes ")Z") := by refine rg (dq_rep ..) ?_; rfl
  refine rg p1 (rg p2 ?_)
  unfold toldT toldPre
  rw [rep_t (m + 1) (codes ")Z")]
  show _ ++ (_ ++ (_ ++ (_ ++ []))) ++ _ = _
  simp
end Mine
end

section
open PySem PySem.W PySem.Calls PyProof.Rows
set_option autoImplicit false
set_option linter.unusedVariables false
namespace Mine
theorem anyS_nl (c : Nat) : anyS [c] [[10], [13]] = nl c := by
  unfold anyS anyS anyS
  by_cases h1 : c = 10
  · subst h1; rfl
  · have e1 : eqL [10] [c] = false := by
      cases q : eqL [10] [c] with
      | false => rfl
      | true => have := eqL_iff.mp q; simp at this; exact absurd this.symm h1
    refine rg e1 ?_
    by_cases h2 : c = 13
    · subst h2; rfl
    · have e2 : eqL [13] [c] = false := by
        cases q : eqL [13] [c] with
        | false => rfl
        | true => have := eqL_iff.mp q; simp at this; exact absurd this.symm h2
      refine rg e2 ?_
      unfold nl
      simp [h1, h2]
theorem eqL_one (c d : Nat) : eqL [c] [d] = (c == d) := by
  cases q : eqL [c] [d] with
  | true => have := eqL_iff.mp q; simp at this; subst this; simp
  | false =>
    cases q' : c == d with
    | false => rfl
    | true => have : c = d := by simpa using q'
              subst this
              replace q := (eqL_iff.mpr rfl) ▸ q; exact tfE q
noncomputable def hdB (d : S) : Bool := match d.getLast? with | some c => nl c | none => false
noncomputable def lsB (d : S) : Bool := match d.getLast? with | some c => c == 42 | none => false
noncomputable def seenB (y : S) (n : Nat) : Bool := (List.range n).any (starAt y)
noncomputable def restB (y : S) (k n : Nat) : Bool := (List.range' k n).any (starAt y)
section
variable {y d r : S} {c : Nat}
theorem at_k (h : y = d ++ c :: r) : y[d.length]? = some c := by subst h; simp
theorem at_k1 (h : y = d ++ c :: r) (hd : d ≠ []) : y[d.length - 1]? = d.getLast? := by
  subst h
  have : 0 < d.length := List.length_pos_iff.mpr hd
  exact rg (List.getElem?_append_left (by lia)) (rg (List.getLast?_eq_getElem?) rfl)
theorem starAt_k (h : y = d ++ c :: r) : starAt y d.length = ((c == 42) && !lsB d) := by
  unfold starAt
  refine rg (at_k h) ?_
  have e1 : (some c == some 42) = (c == 42) := rfl
  refine rg e1 ?_
  by_cases hd : d = []
  · subst hd; simp [lsB]
  · refine rg (at_k1 h hd) ?_
    have : (d.length == 0) = false := by simpa using hd
    refine rg this ?_
    have e2 : (d.getLast? == some 42) = lsB d := by
      unfold lsB
      cases d.getLast? <;> rfl
    refine rg e2 ?_; rfl
theorem headAt_k (h : y = d ++ c :: r) : headAt y d.length = hdB d := by
  unfold headAt
  by_cases hd : d = []
  · subst hd; rfl
  · have : 0 < d.length := List.length_pos_iff.mpr hd
    rw [decide_eq_true this, at_k1 h hd, anyS_nl]
    unfold hdB
    have : d.getLast? = some (d.getLast hd) := List.getLast?_eq_some_getLast hd
    rw [this]; rfl
theorem lsB_snoc : lsB (d ++ [c]) = (c == 42) := by unfold lsB; simp
theorem hdB_snoc : hdB (d ++ [c]) = nl c := by unfold hdB; simp
theorem has_rest : ∀ (r d : S), y = d ++ r → hasSt (tok (hdB d) (lsB d) r) = restB y d.length r.length
  | [], d, _ => rfl
  | c :: r, d, h => by
    have h' : y = (d ++ [c]) ++ r := by refine rg h ?_; simp
    have ih := has_rest r (d ++ [c]) h'
    replace ih := lsB_snoc ▸ hdB_snoc ▸ ih
    have e : restB y d.length (c :: r).length = (starAt y d.length || restB y (d.length + 1) r.length) := by
      unfold restB
      exact rg List.length_cons (rg List.range'_succ (rg List.any_cons rfl))
    have el : (d ++ [c]).length = d.length + 1 := by simp
    replace ih := el ▸ ih
    refine rg e (rg (starAt_k h) (rl ih ?_))
    by_cases h42 : c = 42
    · subst h42
      refine rg tok_st ?_
      cases lsB d <;> rfl
    · have q0 : (c == 42) = false := by simpa using h42
      refine rg q0 ?_
      cases q : nl c with
      | true => refine rg (tok_nl q) ?_; rfl
      | false => refine rg (tok_c h42 q) ?_; rfl
theorem stars_split {k : Nat} (hk : k < y.length) (hs : starAt y k = true) : starsOf y = (((List.range k).filter (starAt y)) ++ k :: ((List.range' (k + 1) (y.length - k - 1)).filter (starAt y))).map fun (k : Nat) => (k : Int) := by
  unfold starsOf
  have e : List.range y.length = List.range k ++ k :: List.range' (k + 1) (y.length - k - 1) := by
    refine rl List.range'_succ (rg List.range_eq_range' (rg List.range_eq_range' ?_))
    have : y.length = k + (y.length - k - 1 + 1) := by lia
    conv => lhs; rw [this]
    have := @List.range'_append_1 0 k (y.length - k - 1 + 1)
    rw [Nat.zero_add] at this
    exact this.symm
  rw [e, List.filter_append, List.filter_cons, if_pos hs]
theorem first_k {k : Nat} (hk : k < y.length) (hs : starAt y k = true) : ((k : Int) == first y) = !seenB y k := by
  unfold first seenB
  refine rg (stars_split hk hs) ?_
  cases q : (List.range k).filter (starAt y) with
  | nil =>
    have : (List.range k).any (starAt y) = false := by
      rw [List.any_eq_false]
      intro x hx hx2
      have : x ∈ (List.range k).filter (starAt y) := List.mem_filter.mpr ⟨hx, hx2⟩
      replace this := q ▸ this; cases this
    refine rg this ?_
    refine (?_ : ((k : Int) == (k : Int)) = true)
    simp
  | cons a l =>
    have ha : a ∈ (List.range k).filter (starAt y) := by refine rg q ?_; exact .head _
    obtain ⟨h1, h2⟩ := List.mem_filter.mp ha
    have : (List.range k).any (starAt y) = true := List.any_eq_true.mpr ⟨a, h1, h2⟩
    refine rg this ?_
    refine (?_ : ((k : Int) == (a : Int)) = false)
    have := List.mem_range.mp h1
    have : (k : Int) ≠ (a : Int) := by lia
    simpa using this
theorem last_k {k : Nat} (hk : k < y.length) (hs : starAt y k = true) : ((k : Int) == last y) = !restB y (k + 1) (y.length - k - 1) := by
  unfold last restB
  refine rl (List.getLast?_eq_getElem?) (rg (stars_split hk hs) (rg List.map_append (rg (List.getLast?_append) ?_)))
  cases q : (List.range' (k + 1) (y.length - k - 1)).filter (starAt y) with
  | nil =>
    have : (List.range' (k + 1) (y.length - k - 1)).any (starAt y) = false := by
      rw [List.any_eq_false]
      intro x hx hx2
      have : x ∈ (List.range' (k + 1) (y.length - k - 1)).filter (starAt y) := List.mem_filter.mpr ⟨hx, hx2⟩
      replace this := q ▸ this; cases this
    refine rg this ?_
    refine (?_ : ((k : Int) == (k : Int)) = true)
    simp
  | cons a l =>
    have ha : ∀ x ∈ a :: l, k + 1 ≤ x ∧ x ∈ (List.range' (k + 1) (y.length - k - 1)) ∧ starAt y x = true := fun x hx => by
      replace hx := (Eq.symm q) ▸ hx
      obtain ⟨h1, h2⟩ := List.mem_filter.mp hx
      have := List.mem_range'_1.mp h1
      exact ⟨this.1, h1, h2⟩
    have : (List.range' (k + 1) (y.length - k - 1)).any (starAt y) = true := List.any_eq_true.mpr ⟨a, (ha a (.head _)).2.1, (ha a (.head _)).2.2⟩
    refine rg this ?_
    have e : ((k :: a :: l).map fun (k : Nat) => (k : Int)).getLast? = some (((a :: l).getLast (List.cons_ne_nil _ _) : Nat) : Int) := by
      refine rg (List.getLast?_map) (rg (List.getLast?_cons_cons) (rg (List.getLast?_eq_some_getLast (List.cons_ne_nil _ _)) ?_)); rfl
    refine rg e ?_
    refine (?_ : ((k : Int) == _) = false)
    have := (ha _ (List.getLast_mem (List.cons_ne_nil a l))).1
    have : (k : Int) ≠ (((a :: l).getLast (List.cons_ne_nil _ _) : Nat) : Int) := by lia
    simpa using this
theorem anyI_mem {x : Int} : ∀ {l : List Int}, anyI x l = true ↔ x ∈ l
  | [] => by simp [anyI]
  | a :: l => by
    unfold anyI
    rw [List.mem_cons]
    cases q : a == x with
    | true => have : a = x := by simpa using q
              simp [this]
    | false =>
      have : x ≠ a := fun e => by subst e; simp at q
      simp only [this, false_or]
      exact anyI_mem
theorem any_star {k : Nat} (hk : k < y.length) : anyI (k : Int) (starsOf y) = starAt y k := by
  have : anyI (k : Int) (starsOf y) = true ↔ starAt y k = true := by
    rw [anyI_mem]
    unfold starsOf
    rw [List.mem_map]
    constructor
    · rintro ⟨a, ha, e⟩
      have : a = k := by lia
      subst this
      exact (List.mem_filter.mp ha).2
    · intro h
      exact ⟨k, List.mem_filter.mpr ⟨List.mem_range.mpr hk, h⟩, rfl⟩
  cases q : starAt y k with
  | true => exact this.mpr q
  | false =>
    cases q' : anyI (k : Int) (starsOf y) with
    | false => rfl
    | true => replace q := (this.mp q') ▸ q; exact tfE q
theorem seen_succ (y : S) (n : Nat) : seenB y (n + 1) = (seenB y n || starAt y n) := by
  unfold seenB; refine rg List.range_succ (rg List.any_append ?_); simp
theorem starP_SS {m : Nat} (h : y = d ++ c :: r) (hs : starAt y d.length = true) : starP y m d.length = SS m (!seenB y d.length) (!restB y (d.length + 1) r.length) (hdB d) := by
  have hk : d.length < y.length := by refine rg h ?_; simp
  have hr : y.length - d.length - 1 = r.length := by refine rg h ?_; simp
  have h1 := first_k hk hs
  have h2 := last_k hk hs
  replace h2 := hr ▸ h2
  unfold starP shutAt
  refine rg h1 (rg h2 (rg (headAt_k h) ?_))
  cases seenB y d.length <;> cases restB y (d.length + 1) r.length
  · refine (?_ : rep (m + 1) (codes ".") ++ (match hdB d with | true => codes "." | false => []) ++ codes "*" = SS m true true (hdB d))
    refine rg (SS_tt ..) ?_; rfl
  · show rep m ([] ++ codes "(.>.") ++ [] ++ codes "(?>.*?" ++ rep m (codes ".") = rep m (codes "(.>.") ++ codes "(?>.*?" ++ rep m (codes ".")
    refine rg (List.append_nil ..) ?_; rfl
  · rfl
  · show rep m ([41] ++ codes "(.>.") ++ [41] ++ codes "(?>.*?" ++ rep m (codes ".") = rep m (codes ")(.>.") ++ codes ")(?>.*?" ++ rep m (codes ".")
    rw [List.append_assoc (rep m _) [41]]; rfl
theorem told_suffix {m : Nat} : ∀ (r d : S), y = d ++ r → ((List.range' d.length r.length).map fun k => piece y m k ((y[k]?).getD 0)).flatten = KK m (seenB y d.length) (tok (hdB d) (lsB d) r)
  | [], d, _ => rfl
  | c :: r, d, h => by
    have h' : y = (d ++ [c]) ++ r := by refine rg h ?_; simp
    have ih := told_suffix (m := m) r (d ++ [c]) h'
    replace ih := lsB_snoc ▸ hdB_snoc ▸ ih
    have el : (d ++ [c]).length = d.length + 1 := by simp
    rw [el, seen_succ] at ih
    have hk : d.length < y.length := by refine rg h ?_; simp
    have hst := starAt_k h
    refine rg List.length_cons (rg List.range'_succ (rg List.map_cons (rg List.flatten_cons (rg ih (rg (at_k h) ?_)))))
    refine (?_ : piece y m d.length c ++ _ = _)
    unfold piece
    refine rg (anyS_nl ..) (rg (eqL_one ..) (rg (eqL_one ..) (rg (headAt_k h) (rg (any_star hk) ?_))))
    by_cases h42 : c = 42
    · subst h42
      refine rg tok_st ?_
      have hst : starAt y d.length = !lsB d := hst
      cases q : lsB d with
      | true =>
        replace hst := q ▸ hst
        have hst : starAt y d.length = false := hst
        rw [hst, Bool.or_false]; rfl
      | false =>
        replace hst := q ▸ hst
        have hst : starAt y d.length = true := hst
        have hr := has_rest r (d ++ [42]) h'
        replace hr := el ▸ lsB_snoc ▸ hdB_snoc ▸ hr
        rw [hst, Bool.or_true]
        show starP y m d.length ++ _ = SS m (!seenB y d.length) (!hasSt (tok false true r)) (hdB d) ++ KK m true (tok false true r)
        rw [starP_SS h hst, show hasSt (tok false true r) = restB y (d.length + 1) r.length from hr]; rfl
    · have q0 : (c == 42) = false := by simpa using h42
      have hst : starAt y d.length = false := by refine rg hst (rg q0 ?_); rfl
      rw [hst, Bool.or_false, q0]
      cases q : nl c with
      | true => rw [tok_nl q]; rfl
      | false =>
        rw [tok_c h42 q]
        show (match c == 63 with | true => (match hdB d with | true => codes ".." | false => codes ".") | false => [c]) ++ KK m _ (tok false false r) = (match c == 63 with | true => qm (hdB d) | false => [c]) ++ KK m _ (tok false false r)
        cases c == 63 with
        | true => cases hdB d <;> rfl
        | false => rfl
end
theorem told_eq (y : S) (m : Nat) : told y m = toldT m (tok false false y) := by
  unfold told toldT toldN
  refine rg List.range_eq_range' ?_
  have := told_suffix (y := y) (m := m) y [] rfl
  replace this := (show ([] : S).length = 0 from rfl) ▸ this
  refine rg this ?_; rfl
/-! the turns -/
noncomputable def okc (c : Nat) : Prop := c ≠ 34 ∧ c ≠ 39 ∧ c ≠ 91
theorem okc_dec {x : S} (h : x.all (fun c => c != 34 && c != 39 && c != 91) = true) : ∀ c ∈ x, okc c := fun c hc => by
  have := List.all_eq_true.mp h c hc
  simp at this
  exact ⟨this.1.1, this.1.2, this.2⟩
noncomputable def TA : Tk → Prop
  | .ch s => ∀ c ∈ s, okc c
  | _ => True
theorem TA_tok : ∀ (p : S) (h l : Bool), (∀ c ∈ p, okc c) → ∀ t ∈ tok h l p, TA t
  | [], _, _, _, t, ht => by cases ht
  | c :: r, h, l, hp, t, ht => by
    have hr : ∀ c ∈ r, okc c := fun c hc => hp c (.tail _ hc)
    by_cases e : c = 42
    · subst e
      replace ht := tok_st ▸ ht
      rcases List.mem_append.mp ht with ht | ht
      · induction l with
        | true => cases ht
        | false => refine rg (List.mem_singleton.mp ht) ?_; trivial
      · exact TA_tok r _ _ hr t ht
    · cases q : nl c with
      | true =>
        replace ht := (tok_nl q) ▸ ht
        rcases List.mem_cons.mp ht with rfl | ht
        · trivial
        · exact TA_tok r _ _ hr t ht
      | false =>
        replace ht := (tok_c e q) ▸ ht
        rcases List.mem_cons.mp ht with rfl | ht
        · cases b : c == 63 with
          | true => induction h <;> exact okc_dec rfl
          | false =>
            intro x hx
            refine rg (List.mem_singleton.mp hx) ?_
            exact hp c (.head _)
        · exact TA_tok r _ _ hr t ht
theorem SS_all (m : Nat) (f l h : Bool) : ∀ c ∈ SS m f l h, okc c := by
  induction f <;> induction l
  · exact app_all (app_all (rep_all (okc_dec rfl)) (okc_dec rfl)) (rep_all (okc_dec rfl))
  · exact app_all (rep_all (okc_dec rfl)) (okc_dec rfl)
  · exact app_all (app_all (rep_all (okc_dec rfl)) (okc_dec rfl)) (rep_all (okc_dec rfl))
  · refine rg (SS_tt ..) ?_
    refine app_all (app_all (rep_all (okc_dec rfl)) ?_) (okc_dec rfl)
    induction h <;> exact okc_dec rfl
theorem KK_all {m : Nat} : ∀ (ts : List Tk), (∀ t ∈ ts, TA t) → ∀ seen, ∀ c ∈ KK m seen ts, okc c
  | [], _, _, c, hc => by cases hc
  | .nl :: r, h, seen, c, hc => app_all (p := okc) (rep_all (okc_dec rfl)) (KK_all r (fun t ht => h t (.tail _ ht)) seen) c hc
  | .ch s :: r, h, seen, c, hc => app_all (p := okc) (h _ (.head _)) (KK_all r (fun t ht => h t (.tail _ ht)) seen) c hc
  | .st hh :: r, h, seen, c, hc => app_all (p := okc) (SS_all m _ _ hh) (KK_all r (fun t ht => h t (.tail _ ht)) true) c hc
theorem told_all {y : S} (hy : ∀ c ∈ y, okc c) (m : Nat) : ∀ c ∈ told y m, okc c := by
  refine rg (told_eq ..) ?_
  exact app_all (app_all (app_all (okc_dec rfl) (rep_all (okc_dec rfl))) (KK_all _ (TA_tok y _ _ hy) false)) (rep_all (okc_dec rfl))
theorem glue10_len : ∀ (us : List S), us ≠ [] → (glue [10] us).length + 1 = total us + us.length
  | [], h => absurd rfl h
  | [u], _ => by simp [glue, glueF, total]
  | u :: v :: us, _ => by
    have ih := glue10_len (v :: us) (List.cons_ne_nil _ _)
    refine rg (glue_cons10 ..) ?_
    have : total (u :: v :: us) = u.length + total (v :: us) := by unfold total; simp
    refine rg this ?_
    simp only [List.length_append, List.length_cons, List.length_nil] at ih ⊢
    lia
theorem told_len {y : S} {m : Nat} (hm : m ≤ 2) (hy : y.length ≤ 20) : (told y m).length ≤ 518 := by
  have h1 := toldPre_len hm
  have h2 := toldN_len (y := y) hm y.length
  unfold told
  rw [List.length_append, List.length_append, rep_len]
  have : (m + 1) * (codes ")Z").length ≤ 3 * 2 := Nat.mul_le_mul (by lia) (Nat.le_refl _)
  lia
theorem turn_ok {y : S} (hy : ∀ c ∈ y, okc c) (hl : y.length ≤ 20) {m : Nat} (hm : m ≤ 2) : Turn y m (prev y m) := by
  have hp : ∀ c ∈ prev y m, okc c := by
    induction m with
    | zero => exact hy
    | succ m => exact told_all hy m
  have hpl : (prev y m).length ≤ 518 := by
    induction m with
    | zero => refine (?_ : y.length ≤ _); lia
    | succ m => exact told_len (by lia) hl
  have hcom : ∀ c ∈ comOf (Nat.beq m 1), c = 35 := by
    intro c hc
    cases q : Nat.beq m 1 with
    | true => replace hc := q ▸ hc; exact List.mem_singleton.mp hc
    | false => replace hc := q ▸ hc; cases hc
  obtain ⟨us, w1, w2, w3⟩ := turn_of hcom fun c hc => ⟨(hp c hc).1, (hp c hc).2.1⟩
  have hg : glue [10] us = told y m := by
    rw [w3, told_eq]
    induction m with
    | zero =>
      show _ = codes "(?s:" ++ rep 0 _ ++ KK 0 false (tok false false y) ++ rep 1 (codes ")Z")
      rw [rep_s]
      show _ = codes "(?s:" ++ [] ++ KK 0 false (tok false false y) ++ (codes ")Z" ++ [])
      rw [List.append_nil, List.append_nil]; rfl
    | succ m =>
      show codes "(?s:" ++ KK 0 false (tok false false (told y m)) ++ codes ")Z" = _
      rw [told_eq, told_step (GT_tok y _ _)]
  have hlen := glue10_len us w2
  have ht := told_len (y := y) hm hl
  replace hlen := hg ▸ hlen
  refine ⟨fun h => (hp 91 h).2.2 rfl, by lia, ?_, us, w1, by lia, by unfold szB; lia, hg⟩
  have h1 := trF_len (prev y m)
  have h2 := crlf_len (trF (prev y m))
  have h3 := dots_len (crlf (trF (prev y m))) true
  unfold qdF
  lia
theorem codeF_ok {c : Int} (h0 : 0 ≤ c) : okc (codeF c).toNat := by
  unfold codeF
  split
  · exact ⟨by decide, by decide, by decide⟩
  · rename_i h
    have h1 := (Bool.or_eq_false_iff.mp h).1
    have : ∀ d : Nat, (d : Int) ∈ ([34, 39, 91] : List Int) → c.toNat ≠ d := fun d hd e => by
      have : c = d := by lia
      replace h1 := this ▸ h1
      replace h1 := (anyI_mem.mpr hd) ▸ h1; exact tfE h1
    exact ⟨this 34 (by decide), this 39 (by decide), this 91 (by decide)⟩
theorem item_ok (v : Int) : ∀ c ∈ item v, okc c := by
  unfold item
  cases q : decide (v.fmod 12 < 11) with
  | true =>
    exact Below.ofInt (n := 11) (P := fun k => ∀ c ∈ (pieces[k.toNat]?).getD [], okc c) ⟨okc_dec rfl, okc_dec rfl, okc_dec rfl, okc_dec rfl, okc_dec rfl, okc_dec rfl, okc_dec rfl, okc_dec rfl, okc_dec rfl, okc_dec rfl, okc_dec rfl, trivial⟩
      (Int.fmod_nonneg_of_pos v (by decide)) (of_decide_eq_true q)
  | false =>
    intro c hc
    refine rg (List.mem_singleton.mp hc) ?_
    exact codeF_ok (code_bounds v).1
theorem itemsY_ok (ns : List Int) : ∀ c ∈ itemsY ns, okc c := by
  unfold itemsY itemsOf
  intro c hc
  obtain ⟨x, hx, hcx⟩ := List.mem_flatten.mp hc
  obtain ⟨v, _, rfl⟩ := List.mem_map.mp hx
  exact item_ok v c hcx
theorem turns_ok (ns : List Int) (m : Nat) (hm : m ≤ 2) : Turn (itemsY ns) m (prev (itemsY ns) m) := turn_ok (itemsY_ok ns) (itemsY_len ns) hm
end Mine
end

section
open PySem PySem.W PyProof.Rows
set_option Elab.async false
set_option maxRecDepth 100000
set_option maxHeartbeats 0
namespace Mine

/-! the head: the top's run in one check -/
noncomputable def ofList : List Obj → Nat → BT → BT
  | [], _, T => T
  | o :: r, n, T => ofList r (n + 1) (T.ins n o)
theorem ins_some (o : Obj) : ∀ (T : BT) (n : Nat), (∀ i, i < n → (T.get i).isSome = true) → ((T.ins n o).get n).isSome = true
  | .nil, n, h => by
    induction n with
    | zero => rfl
    | succ n => have := h 0 (Nat.succ_pos n); simp [BT.get] at this
  | .node v l r, n, h => by
    refine rg (BT.ins_node ..) ?_
    by_cases h0 : n = 0
    · subst h0; rw [if_pos rfl, BT.get_node, if_pos rfl]; rfl
    · refine rg (if_neg h0) ?_
      by_cases p : n % 2 = 1
      · rw [if_pos p, BT.get_node, if_neg h0, if_pos p]
        refine ins_some o l (n / 2) fun i hi => ?_
        have := h (2 * i + 1) (by lia)
        rw [BT.get_node, if_neg (by lia), if_pos (by lia), show (2 * i + 1) / 2 = i by lia] at this
        exact this
      · rw [if_neg p, BT.get_node, if_neg h0, if_neg p]
        refine ins_some o r (n / 2 - 1) fun i hi => ?_
        have := h (2 * i + 2) (by lia)
        rw [BT.get_node, if_neg (by lia), if_neg (by lia), show (2 * i + 2) / 2 - 1 = i by lia] at this
        exact this
theorem ofList_get : ∀ (r l : List Obj) (T : BT), (∀ i, T.get i = l[i]?) → ∀ i, (ofList r l.length T).get i = (l ++ r)[i]?
  | [], l, T, h, i => by refine rg (List.append_nil ..) ?_; exact h i
  | o :: r, l, T, h, i => by
    have hs : ((T.ins l.length o).get l.length).isSome = true := ins_some o T _ fun i hi => by
      refine rg (h i) (rg (List.getElem?_eq_getElem hi) ?_); rfl
    have := ofList_get r (l ++ [o]) (T.ins l.length o) (fun i => by
      (rewrite [BT.get_ins o T _ hs]; refine rg (h i) ?_)
      by_cases e : i = l.length
      · subst e; simp
      · refine rg (if_neg e) ?_
        by_cases q : i < l.length
        · exact rg (List.getElem?_append_left q) rfl
        · exact rg (List.getElem?_eq_none (by lia)) (rg (List.getElem?_eq_none (by simp; lia)) rfl)) i
    rw [List.length_append, List.length_singleton, List.append_assoc] at this
    exact this
noncomputable def toT (s : Shared) : SharedT := ⟨ofList s.heap.objs.toList 0 .nil, s.heap.objs.size, s.heap.life, s.gens, s.drawn, s.toks, s.os⟩
theorem toT_abs (s : Shared) : (toT s).abs = s := by
  obtain ⟨⟨objs, life⟩, gens, drawn, toks, os⟩ := s
  have e : (BT.list (ofList objs.toList 0 .nil) objs.size).toArray = objs := by
    apply Array.ext_getElem?
    intro i
    have g := ofList_get objs.toList [] .nil (fun i => by simp [BT.get]) i
    rw [List.length_nil, List.nil_append] at g
    unfold BT.list
    refine rg (List.getElem?_toArray) (rg (List.getElem?_map) ?_)
    by_cases h : i < objs.size
    · refine rg (List.getElem?_range h) ?_
      refine (?_ : some ((BT.get _ i).getD default) = _)
      refine rg g ?_
      simp [h]
    · refine rg (List.getElem?_eq_none (by rw [List.length_range]; lia)) ?_
      simp; lia
  refine (?_ : Shared.mk (Heap.mk _ _) _ _ _ _ = _)
  exact congrArg (fun x => Shared.mk (Heap.mk x life) gens drawn toks os) e

noncomputable def runF (p : Program) (w : World) (n₀ : Nat) (ann : Option Value) : Nat → SharedT → Thread → Option SharedT
  | 0, _, _ => none
  | n + 1, s, t => match through t with
    | true => some s
    | false => match PySem.W.Fast.tw6613529449190102663 n₀ ann t with
      | false => none
      | true => match PySem.W.Fast.tw10156331382660048174 (PySem.W.Fast.tw11892475500146522536 PySem.W.Fast.tw14364793385576792824) p w s t with
        | some (s', t') => runF p w n₀ ann n s' t'
        | none => none
theorem runF_spec {p : Program} {w : World} {n₀ : Nat} {ann : Option Value} : ∀ (n : Nat) (s s' : SharedT) (t : Thread), runF p w n₀ ann n s t = some s' → topRun treeTable p w n₀ ann n s.abs t = some s'.abs
  | 0, _, _, _, h => by exact nsE h
  | n + 1, s, s', t, h => by
    unfold runF at h
    unfold topRun
    cases ht : through t with
    | true => replace h := ht ▸ h; obtain rfl := Option.some.inj h; rfl
    | false =>
      replace h := ht ▸ h
      replace h := (Eq.symm PySem.W.Fast.te14364793385576792824) ▸ (Eq.symm PySem.W.Fast.te11892475500146522536) ▸ (Eq.symm PySem.W.Fast.te10156331382660048174) ▸ (Eq.symm PySem.W.Fast.te6613529449190102663) ▸ h
      cases hk : stepOk n₀ ann t with
      | false => replace h := hk ▸ h; exact nsE h
      | true =>
        replace h := hk ▸ h
        cases hs : PySem.W.stepT (denote treeTable) p w s t with
        | none => replace h := hs ▸ h; exact nsE h
        | some r =>
          obtain ⟨s₂, t₂⟩ := r
          replace h := hs ▸ h
          refine rg (stepT_spec hs) ?_
          exact runF_spec n s₂ s' t₂ h

noncomputable def chainF {β : Type} (p : Program) (w : World) (N : Nat) (obs : Shared → Shared → β) : Option β :=
  ((PySem.W.Fast.tw10274390034422433532 PySem.W.Fast.tw14364793385576792824 (opening p) w N (start (opening p)).1 (start (opening p)).2).bind (PySem.W.Fast.tw14289696077712309145 p)).bind fun s₀ =>
    (runF p w s₀.heap.objs.size (s₀.heap.nsMap mainGlobals "__annotations__") N (toT s₀) (topStub p)).map fun s₁ => obs s₀ s₁.abs

noncomputable def looks {α : Type} (p q : Program) (loose : List Str) (Xt : Shared → Bool) (Yf : Shared → α) (s₀ s₁ : Shared) :=
  ((s₀.heap.isNs mainGlobals && s₀.gens.size == 0) && (staticsOk (importedModules p.main.body) s₀.heap s₁.heap && namesBound p s₁.heap && gensDone s₁ && laidKept s₀.heap s₁.heap),
   PySem.W.Fast.tw4187177175401517315 q loose (importedModules p.main.body) Xt true s₁, Yf s₁)

theorem left_of {p q : Program} {loose : List Str} {Xt : Shared → Bool} {α : Type} {Yf : Shared → α} {Ya : World → α} {N : Nat}
    (h : ∀ w, chainF p w N (looks p q loose Xt Yf) = some (true, openGood q loose, Ya w)) : LeftO p q loose Xt Yf Ya N := fun w => by
  have h := h w
  unfold chainF at h
  replace h := (Eq.symm PySem.W.Fast.te14289696077712309145) ▸ (Eq.symm PySem.W.Fast.te14364793385576792824) ▸ (Eq.symm PySem.W.Fast.te10274390034422433532) ▸ h
  obtain ⟨s₀, h0, h1⟩ := Option.bind_eq_some_iff.mp h
  obtain ⟨s₁, h2, h3⟩ := Option.map_eq_some_iff.mp h1
  unfold looks at h3
  replace h3 := (Eq.symm PySem.W.Fast.te4187177175401517315) ▸ h3
  obtain ⟨l1, l2, l3⟩ : _ ∧ _ ∧ _ := by simpa only [Prod.mk.injEq] using h3
  obtain ⟨l4, l5⟩ := Bool.and_eq_true_iff.mp l1
  have r := runF_spec _ _ _ _ h2
  rw [toT_abs] at r
  have e : openEnds treeTable p w N = some s₁.abs := by
    unfold openEnds fencedOpening
    refine rg h0 ?_
    refine (?_ : topFrom treeTable p w N s₀ = _)
    unfold topFrom
    refine rg l4 (rg r ?_)
    refine (?_ : (match staticsOk (importedModules p.main.body) s₀.heap s₁.abs.heap && namesBound p s₁.abs.heap && gensDone s₁.abs && laidKept s₀.heap s₁.abs.heap with | true => _ | false => _) = _)
    exact rg l5 rfl
  refine rg e ?_
  exact congrArg some (Prod.ext l2 l3)
end Mine
end

section
open PySem PySem.W PyProof.Rows
set_option Elab.async false
set_option maxRecDepth 100000
set_option maxHeartbeats 0
namespace Mine
noncomputable def q : Program := view PySem.Challenge.pw_il0193_02 [0, 1, 39]
noncomputable def loose : List Str := PySem.Challenge.pw_il0193_02.boundNames.filter fun n => !((["law", "_sre", "deque"] : List Str).contains n)
noncomputable def Xt : Shared → Bool := fun s => xlAt q [] s && recOk [] s
noncomputable abbrev w4 (w : World) (a b : Bool) : World := (w.withFollow "comprehension-iter-twice" a).withFollow "special-get-raises" b
noncomputable def addrs : List Addr := [2, 3, 48, 49, 53, 54, 75, 60, 61, 72, 73, 84, 85, 91, 92, 98, 99, 112, 113, 139, 140, 142, 143, 144, 169, 170, 400, 646, 647, 410, 416, 417, 423, 424, 430, 431, 586, 592, 593, 781, 782, 783, 784, 785, 786, 699, 705, 706, 712, 713, 714, 742, 743, 749, 750, 771, 772, 778, 779, 787, 793, 794, 798, 799, 803, 804, 810, 811]
theorem addrs_eq (P : Params) : addrs = (KP P).map (·.1) := rfl
noncomputable def Yf (s : Shared) : List (Option Obj) := addrs.map s.heap.get?
noncomputable def Ya (w : World) : List (Option Obj) := (KP w.params).map fun p => some p.2
end Mine
end

section
open PySem PySem.W PySem.Calls PyProof.Rows
noncomputable section
set_option Elab.async false
set_option maxRecDepth 100000
set_option autoImplicit false
set_option linter.unusedVariables false
set_option maxHeartbeats 800000
namespace Mine
/-! the law is called -/
noncomputable def Lall {α : Type} (P : Str → α → Prop) (l : List (Str × α)) : Prop := List.rec True (fun p _ ih => P p.1 p.2 ∧ ih) l
theorem lk_all {α : Type} {P : Str → α → Prop} {x : Str} {v : α} : ∀ {l : List (Str × α)}, Lall P l → lk l x = some v → P x v
  | [], _, h => by exact nsE h
  | (y, u) :: l, ha, h => by
    rw [lk_cons] at h
    cases q : eqS y x with
    | true => rw [q] at h; obtain rfl := Option.some.inj h; exact eqS_iff.mp q ▸ ha.1
    | false => rw [q] at h; exact lk_all ha.2 h
noncomputable def GlbAt (P : Params) (x : Str) (v : Value) : Prop := nsIn (KP P) mainGlobals x = some (some v) ∨ (nsIn (KP P) mainGlobals x = some none ∧ bootBuiltins x = some v ∧ x ≠ "__name__")
theorem glb_ok (P : Params) (x : Str) (v : Value) (h : lk glbX x = some v) : GlbAt P x v := by
  refine lk_all (P := GlbAt P) ?_ h
  unfold glbX
  repeat (first | refine ⟨.inl rfl, ?_⟩ | refine ⟨.inr ⟨rfl, by kernel_rfl, by decide⟩, ?_⟩)
  trivial
noncomputable abbrev C0 (prog : Program) (w : World) (A : Around) (g : Heap) (L : Addr) (os : OsState) : Cx := cX prog w A g L "law" (fScope (stAt 39)) 811 (.ref 810) [] [] os [] [] []
theorem law_top {prog : Program} {w : World} {s : Shared} {a : Addr} {vs : List Value} {ns : List Int} {p : Program} {loose : List Str} {mg mb : Str → Option Value} (X : (KP w.params).In s.heap) (T : TopRead p loose mg mb s.heap) (hg : s.gens = #[])
    (ha : s.heap.get? a = some (listO vs 0)) (hv : ∀ R, VRs R (intS ns) vs) (hn : ns.length ≤ 63) :
    wpAny (model prog w) callerA (PySem.call (.ref 811) [.ref a]) (fun v s' => v = .bool true ∧ (∀ b o, s.heap.get? b = some o → s'.heap.get? b = some o) ∧ s'.os = s.os ∧ s'.gens = #[]) (fun _ _ => False) s := by
  have ho : (KP w.params).lookup 811 = some ⟨.type "function", none, .func (fnOf "law" "law" (fPars (stAt 39)) (fBody (stAt 39)) (fScope (stAt 39)) .none .none .none (.str "law_il0193_02" 1504) none (.ref 810) .none), #[]⟩ := rfl
  have hcd : codeIn (KP w.params) (.ref 810) "law" = true := rfl
  refine wpAny_call (codeAny_call_function (fd := fnOf "law" "law" (fPars (stAt 39)) (fBody (stAt 39)) (fScope (stAt 39)) .none .none .none (.str "law_il0193_02" 1504) none (.ref 810) .none) (body := fBody (stAt 39)) (by decide +kernel) (X _ _ ho) rfl rfl rfl rfl (codeRec_of X hcd) ?_)
  have hb : bindArgs (fnOf "law" "law" (fPars (stAt 39)) (fBody (stAt 39)) (fScope (stAt 39)) .none .none .none (.str "law_il0193_02" 1504) none (.ref 810) .none) ⟨[.ref a], []⟩ = (pure [("script", .ref a)] : Sem (List (Str × Value))) := rfl
  refine wpAny_of_eq hb ?_
  refine wpAny_newFunctionEnv (by decide +kernel) (fun y hy => ?_) (fun h₁ hns hsb => ?_) rfl
  · rw [List.mem_singleton.mp hy]
    have : (fScope (stAt 39)).names.lookup ("script" : Str) = some .local := by decide +kernel
    exact this
  have hk₁ : ∀ b o, s.heap.get? b = some o → h₁.get? b = some o := fun b o e => hsb.extBut b o (Nat.ne_of_lt (Heap.lt_size e)) (Heap.get?_push_of_some _ e)
  refine ⟨T.nolimit.fresh _ hsb, codeAny_func ?_⟩
  have ok : (C0 prog w (callerA.deeper (envX "law" (fScope (stAt 39)) s.heap.objs.size 811 (.ref 810) [])) s.heap s.heap.objs.size s.os).Ok :=
    ⟨X, rfl, glb_ok w.params, ⟨p, loose, mg, mb, T⟩, rfl, T.nolimit, (by show callerA.depth + 1 < 900; decide +kernel), fun b hb => (by cases hb), rfl, rfl, fun e he => (by cases he), fun p hp => (by cases hp)⟩
  have r : Rel (C0 prog w (callerA.deeper (envX "law" (fScope (stAt 39)) s.heap.objs.size 811 (.ref 810) [])) s.heap s.heap.objs.size s.os) (fun b o => b = a ∧ o = listO vs 0) ⟨[("script", .fz a (listO vs 0))], [], 0⟩ { s with heap := h₁, toks := s.toks + 1 } := by
    refine ⟨⟨_, ⟨hns, hk₁, Nat.le_refl _⟩, fun x v h => ?_⟩, fun c hc => (by cases hc), fun b o h => ?_, fun b o h q => (by cases q), .nil, fun x v h => (by exact nsE h), hg, rfl, fun p hp => (by cases hp)⟩
    · rw [lk_cons] at h
      split at h
      · rename_i q
        obtain rfl := Option.some.inj h
        have := eqS_iff.mp q
        subst this
        exact ⟨.ref a, by rfl, .fz ⟨rfl, rfl⟩⟩
      · exact nsE h
    · obtain ⟨rfl, rfl⟩ := h
      exact ⟨hk₁ _ _ ha, Nat.ne_of_lt (Heap.lt_size ha), fun c hc => (by cases hc)⟩
  refine wpAny_mono (law_body (Q := fun f _ => ∃ c, f = .ret (.bool c true)) hn hv (by show callerA.depth + 1 + 20 < 900; decide +kernel) (turns_ok ns) ok (fun st => ⟨_, rfl⟩) _ _ r) ?_ fun _ _ e => e.elim
  rintro f s2 ⟨R2, g2, sf, st2, r2, hf, c, rfl⟩
  cases hf with
  | ret h =>
    cases h
    obtain ⟨m, F, _⟩ := r2.fr
    exact ⟨rfl, F.keep, r2.os, r2.gens⟩
end Mine
end
end

section
open PySem PySem.W PyProof.Rows
set_option Elab.async false
set_option maxRecDepth 100000
set_option maxHeartbeats 0
namespace Mine
theorem run_00 : ∀ w : World, chainF PySem.Challenge.pw_il0193_02 (w4 w false false) 13118 (looks PySem.Challenge.pw_il0193_02 q loose Xt Yf) = some (true, openGood q loose, Ya (w4 w false false)) := fun w => by kernel_rfl
end Mine
end

section
open PySem PySem.W PyProof.Rows
set_option Elab.async false
set_option maxRecDepth 100000
set_option maxHeartbeats 0
namespace Mine
theorem run_01 : ∀ w : World, chainF PySem.Challenge.pw_il0193_02 (w4 w false true) 13118 (looks PySem.Challenge.pw_il0193_02 q loose Xt Yf) = some (true, openGood q loose, Ya (w4 w false true)) := fun w => by kernel_rfl
end Mine
end

section
open PySem PySem.W PyProof.Rows
set_option Elab.async false
set_option maxRecDepth 100000
set_option maxHeartbeats 0
namespace Mine
theorem run_10 : ∀ w : World, chainF PySem.Challenge.pw_il0193_02 (w4 w true false) 13118 (looks PySem.Challenge.pw_il0193_02 q loose Xt Yf) = some (true, openGood q loose, Ya (w4 w true false)) := fun w => by kernel_rfl
end Mine
end

section
open PySem PySem.W PyProof.Rows
set_option Elab.async false
set_option maxRecDepth 100000
set_option maxHeartbeats 0
namespace Mine
theorem run_11 : ∀ w : World, chainF PySem.Challenge.pw_il0193_02 (w4 w true true) 13118 (looks PySem.Challenge.pw_il0193_02 q loose Xt Yf) = some (true, openGood q loose, Ya (w4 w true true)) := fun w => by kernel_rfl
end Mine
end

section
open PySem PySem.W PySem.Calls PyProof.Rows
noncomputable section
set_option Elab.async false
set_option maxRecDepth 100000
set_option autoImplicit false
set_option linter.unusedVariables false
set_option maxHeartbeats 800000
namespace Mine
noncomputable abbrev PQ (w : World) : Prop := chainF PySem.Challenge.pw_il0193_02 w 13118 (looks PySem.Challenge.pw_il0193_02 q loose Xt Yf) = some (true, openGood q loose, Ya w)
theorem chain_all : ∀ w : World, PQ w := byRow2 "special-get-raises" (P := PQ) (fun w => byRow2 "comprehension-iter-twice" (P := fun w => PQ (w.withFollow "special-get-raises" false)) run_00 run_10 w) (fun w => byRow2 "comprehension-iter-twice" (P := fun w => PQ (w.withFollow "special-get-raises" true)) run_01 run_11 w)
theorem in_of {w : World} {s : Shared} (h : Yf s = Ya w) : (KP w.params).In s.heap := Frag.in_of (addrs_eq w.params) h
theorem ints_of {vs : List Value} {ns : List Int} (h : IntsAre vs ns) : ∀ R, VRs R (intS ns) vs := by
  intro R
  induction h with
  | nil => exact .nil
  | cons _ _ _ ih => exact .cons .int ih
theorem row_holds (said : PySem.Challenge.rw_il0193_02.row.wellSaid = true) : PySem.Challenge.rw_il0193_02.row.Holds := by
  refine holds_openX (q := q) (loose := loose) (Xt := Xt) (XP := XL q []) (Yf := Yf) (Ya := Ya) (N := 13118) (left_of chain_all) (fun s e => xl_of s (Bool.and_eq_true_iff.mp e).1) XL.keeps (by rfl) (by rfl) (by rfl) (fun s e => recFacts_of (Bool.and_eq_true_iff.mp e).2) (by rfl) said (by decide +kernel) ⟨rfl, rfl, rfl, rfl, rfl, by decide +kernel⟩ ?_ ?_
  · exact ⟨[.list []], by decide +kernel, by decide +kernel⟩
  · intro w s₀ s₁ mg mb G Y fa o pm cd doc dV kV ho hd hcd hD hmg hg args vals as L hpre hlay hrd hwl hlo
    wrow_args hpre hlay hrd hwl hlo
    all_goals
      rename IntsAre _ _ => hI
      rename Heap.IsList _ _ _ => hL
      have X := (in_of Y).keeps L.keeps
      have T := topRead_of G.T
      have hl := mg_of X T.g (n := "law") (v := .ref 811) rfl
      have hfa := hmg.symm.trans hl
      cases hfa
      have ob := PySem.W.X.script_obj L hL
      refine wpAny_mono (law_top X T hg ob (ints_of hI) (by rename ¬ _ => hc; lia)) ?_ fun _ _ e => e.elim
      rintro v s' ⟨rfl, hk, hos, hgens⟩
      refine ⟨.inl ⟨.bool true, .bool true, [], rfl, fun cls => rfl, .bool true, (by wrow_post), fun _ => ⟨.nil, fun a h => by cases h⟩⟩, .of_keep hk, hos, ?_⟩
      exact .of_eq hgens
end Mine
end
end

section
open PySem PySem.W PySem.Calls PyProof.Rows
set_option Elab.async false
set_option maxRecDepth 100000
namespace Mine
/-! the law is well said: each look by itself -/
noncomputable abbrev lW : OpenLaw := PySem.Challenge.rw_il0193_02
noncomputable abbrev pW : Program := PySem.Challenge.pw_il0193_02
theorem said1 : sreFenced pW.main = true := by kernel_rfl
theorem said2 : ((moduleNames pW.main.body).isEmpty || lookedIntoSs (moduleNames pW.main.body) pW.main.body) = true := by kernel_rfl
theorem said3 : namesResolve pW = true := by kernel_rfl
theorem said4 : pW.boundNames.all (fun n => !worldNames.contains n) = true := by kernel_rfl
theorem said5 : noRoadLSs { strict := !(importedModules pW.main.body).all cThrough.contains, foot := none, bare := (["vars", "dir", "locals"] : List Str).filter (readsOut pW pW.main.body) } pW.main.body = true := by kernel_rfl
theorem said6 : (namesMeet pW pW.main.body fun _ n => attrL n) = true := by kernel_rfl
theorem said7 : looksOpen pW = true := look_both (look_both (look_both (look_both (look_both said1 said2) said3) said4) said5) said6
theorem said8 : lW.row.partSaid = true := by
  refine look_both (look_both (look_both (look_both (look_both (look_both (look_both (look_both (look_both (look_both (look_both (look_both (look_both said7 ?_) ?_) ?_) ?_) ?_) ?_) ?_) ?_) ?_) ?_) ?_) ?_) ?_ <;> kernel_rfl
theorem said9 : lW.row.prog.boundNames.contains lW.row.name = true := by kernel_rfl
theorem said10 : (!startupNames.contains lW.row.name) = true := by kernel_rfl
theorem said11 : lW.row.wellSaid = true := look_both (look_both said8 said9) said10
theorem said12 : decide (lW.foot ≤ (behindTheImports lW.prog).length) = true := by kernel_rfl
theorem said13 : lW.footing.all footLine = true := by kernel_rfl
theorem said14 : noClassBlock lW.prog lW.footing = true := by kernel_rfl
theorem said15 : lW.most.all (fun n => decide (63 ≤ n)) = true := by kernel_rfl
theorem said16 : lW.bound.all (fun n => decide (2 ^ 63 ≤ n)) = true := by kernel_rfl
theorem said17 : noRoadLSs { strict := true, foot := some lW.bound', writes := lW.writes, may := lW.may } lW.footing = true := by kernel_rfl
theorem said18 : defStands lW.about lW.above = true := by kernel_rfl
theorem said19 : lW.namesIt = true := by kernel_rfl
theorem said20 : (["type", "isinstance", "issubclass", "getattr", "hasattr"] : List Str).all (fun n => lW.about != [n]) = true := by kernel_rfl
theorem said21 : lW.bound'.all (fun n => !builtinNamed n || lW.about == [n] || !lW.reads n) = true := by kernel_rfl
theorem said22 : (!lW.writes || (lW.prog.main.body.flatMap importedNames).all fun n => !lW.reads n) = true := by kernel_rfl
theorem said23 : (lW.prog.main.body.flatMap importedNames).all (fun n => !lW.reads n || (drawsOf n lW.prog.main.body).all fun mn => mn.2 != ("attrgetter" : Str) && mn.2 != ("methodcaller" : Str)) = true := by kernel_rfl
theorem said24 : namesMeet lW.prog lW.footing (fun sc n => (!(["type", "isinstance", "issubclass", "getattr", "hasattr"] : List Str).contains n || sc.names.lookup n == some .globalImplicit) &&
    (lW.may != some n || sc.kind == .module || sc.names.lookup n == some .globalImplicit)) = true := by kernel_rfl
theorem said25 : lW.own.contains lW.name = true := by kernel_rfl
theorem said26 : (lW.own.eraseDups.length == lW.own.length) = true := by kernel_rfl
theorem said27 : lW.own.all (fun n => !builtinNamed n) = true := by kernel_rfl
theorem said28 : namesMeet lW.prog lW.above (fun _ n => !lW.own.contains n) = true := by kernel_rfl
theorem said29 : (namesMeet lW.prog lW.footing fun sc n => sc.kind == .module || sc.names.lookup n != some .globalExplicit) = true := by kernel_rfl
theorem law_said : lW.wellSaid = true :=
  look_both (look_both (look_both (look_both (look_both (look_both (look_both (look_both (look_both (look_both (look_both (look_both (look_both (look_both (look_both (look_both (look_both (look_both said11 said12) said13) said14) said15) said16) said17) said18) said19) said20) said21) said22) said23) said24) said25) said26) said27) said28) said29
end Mine
end

open PySem PySem.W PyProof.Rows
set_option Elab.async false
set_option maxRecDepth 100000
theorem PySem.Challenge.cw_il0193_02_holds : PySem.Challenge.rw_il0193_02.Holds := by
  exact holds_law Mine.law_said fun said => Mine.row_holds said
