import PyProof.Rows.All
import PyProof.Rows.StrOrd
import Wide.FinOn
import OpenK.AllK
import Wide.All
import Lean
import PySem.Challenge.RW_mr0356_02
section
open PySem PySem.W PyProof.Rows PySem.Calls
set_option Elab.async false
set_option maxRecDepth 100000
namespace Mine

/-! clean values, objects, states -/
inductive V where
  | none
  | bool (b : Bool)
  | int (i : Int)
  | str (s : Str)
  | flt (b : UInt64)
  | ref (k : Nat)
  | raw (a : Addr)
  | ty (n : String)
  | bi (n : String)
  /-- a list that nobody turns any more, known whole -/
  | tr (vs : List V)
  | tri (ns : List Int)
  | trs (ss : List Str)
  /-- range(n) -/
  | rng (n : Nat)
noncomputable def closedV : V → Bool
  | .ref _ => false
  | _ => true
noncomputable def getN {α : Type} (d : α) : Nat → List α → α
  | _, [] => d
  | 0, a :: _ => a
  | n + 1, _ :: r => getN d n r

set_option genSizeOf false in
set_option genInjectivity false in
/-- where the labels lie; the lists and ranges that stay -/
structure Lab where
  of : Nat → Option Addr
  im : List (Addr × Obj)
structure LabLe (ρ ρ' : Lab) : Prop where
  of : ∀ k a, ρ.of k = some a → ρ'.of k = some a
  im : ∀ p ∈ ρ.im, p ∈ ρ'.im
theorem LabLe.refl (ρ : Lab) : LabLe ρ ρ := ⟨fun _ _ h => h, fun _ h => h⟩
theorem LabLe.trans {a b c : Lab} (h : LabLe a b) (g : LabLe b c) : LabLe a c := ⟨fun k x e => g.of k x (h.of k x e), fun p hp => g.im p (h.im p hp)⟩
noncomputable abbrev rngObj (n : Nat) (t u v : Tok) : Obj := { cls := .type "range", dict := none, data := .fields #[.int 0 t, .int n u, .int 1 v], slots := #[] }

inductive VR (ρ : Lab) : V → Value → Prop
  | none : VR ρ .none .none
  | bool (b : Bool) : VR ρ (.bool b) (.bool b)
  | int (i : Int) (t : Tok) : VR ρ (.int i) (.int i t)
  | str (s : Str) (t : Tok) (h : s.length ≤ sizeLine) : VR ρ (.str s) (.str s t)
  | flt (b : UInt64) (t : Tok) (h : t ≠ 0) : VR ρ (.flt b) (.float b t)
  | ref {k : Nat} {a : Addr} : ρ.of k = some a → VR ρ (.ref k) (.ref a)
  | raw (a : Addr) : VR ρ (.raw a) (.ref a)
  | ty (n : String) : VR ρ (.ty n) (.type n)
  | bi (n : String) : VR ρ (.bi n) (.builtin n)
  | tr {vs : List V} {xs : List Value} {a : Addr} {n : Nat} : (a, listOf xs.toArray n) ∈ ρ.im → xs.length = vs.length → vs.all closedV = true → vs.length ≤ sizeLine → (∀ i v, vs[i]? = some v → VR ρ v (getN .none i xs)) → VR ρ (.tr vs) (.ref a)
  | tri {ns : List Int} {xs : List Value} {a : Addr} {n : Nat} : (a, listOf xs.toArray n) ∈ ρ.im → IntsAre xs ns → ns.length ≤ sizeLine → VR ρ (.tri ns) (.ref a)
  | trs {ss : List Str} {xs : List Value} {a : Addr} {n : Nat} : (a, listOf xs.toArray n) ∈ ρ.im → StrsAre xs ss → ss.length ≤ sizeLine → (∀ y ∈ ss, y.length ≤ sizeLine) → VR ρ (.trs ss) (.ref a)
  | rng {n : Nat} {a : Addr} {t u v : Tok} : (a, rngObj n t u v) ∈ ρ.im → VR ρ (.rng n) (.ref a)
theorem VR.mono {ρ ρ' : Lab} (h : LabLe ρ ρ') {v : V} {x : Value} (r : VR ρ v x) : VR ρ' v x := by
  induction r with
  | tr a b c d e ih => exact .tr (h.im _ a) b c d ih
  | tri a b c => exact .tri (h.im _ a) b c
  | trs a b c d => exact .trs (h.im _ a) b c d
  | rng a => exact .rng (h.im _ a)
  | ref e => exact .ref (h.of _ _ e)
  | none => exact .none
  | bool b => exact .bool b
  | int i t => exact .int i t
  | str s t h => exact .str s t h
  | flt b t h => exact .flt b t h
  | raw a => exact .raw a
  | ty n => exact .ty n
  | bi n => exact .bi n
/-- what a machine value is, by the clean one -/
noncomputable def VRi (ρ : Lab) : V → Value → Prop
  | .none, x => x = .none
  | .bool b, x => x = .bool b
  | .int i, x => ∃ t, x = .int i t
  | .str s, x => ∃ t, x = .str s t ∧ s.length ≤ sizeLine
  | .flt b, x => ∃ t, x = .float b t ∧ t ≠ 0
  | .ref k, x => ∃ a, x = .ref a ∧ ρ.of k = some a
  | .raw a, x => x = .ref a
  | .ty n, x => x = .type n
  | .bi n, x => x = .builtin n
  | .tr vs, x => ∃ a xs n, x = .ref a ∧ (a, listOf xs.toArray n) ∈ ρ.im ∧ xs.length = vs.length ∧ vs.all closedV = true ∧ vs.length ≤ sizeLine ∧ (∀ i v, vs[i]? = some v → VR ρ v (getN .none i xs))
  | .tri ns, x => ∃ a xs n, x = .ref a ∧ (a, listOf xs.toArray n) ∈ ρ.im ∧ IntsAre xs ns ∧ ns.length ≤ sizeLine
  | .trs ss, x => ∃ a xs n, x = .ref a ∧ (a, listOf xs.toArray n) ∈ ρ.im ∧ StrsAre xs ss ∧ ss.length ≤ sizeLine ∧ (∀ y ∈ ss, y.length ≤ sizeLine)
  | .rng n, x => ∃ a t u v, x = .ref a ∧ (a, rngObj n t u v) ∈ ρ.im
theorem VR.inv {ρ : Lab} {v : V} {x : Value} (h : VR ρ v x) : VRi ρ v x := by
  cases h with
  | none => exact rfl
  | bool b => exact rfl
  | int i t => exact ⟨_, rfl⟩
  | str i t h => exact ⟨_, rfl, h⟩
  | flt i t h => exact ⟨_, rfl, h⟩
  | ref h => exact ⟨_, rfl, h⟩
  | raw => exact rfl
  | ty => exact rfl
  | bi => exact rfl
  | tr a b c d e => exact ⟨_, _, _, rfl, a, b, c, d, e⟩
  | tri a b c => exact ⟨_, _, _, rfl, a, b, c⟩
  | trs a b c d => exact ⟨_, _, _, rfl, a, b, c, d⟩
  | rng a => exact ⟨_, _, _, _, rfl, a⟩
inductive VRs (ρ : Lab) : List V → List Value → Prop
  | nil : VRs ρ [] []
  | cons {v : V} {x : Value} {vs : List V} {xs : List Value} : VR ρ v x → VRs ρ vs xs → VRs ρ (v :: vs) (x :: xs)
noncomputable def VRsi (ρ : Lab) : List V → List Value → Prop
  | [], xs => xs = []
  | v :: vs, xs => ∃ x ys, xs = x :: ys ∧ VR ρ v x ∧ VRs ρ vs ys
theorem VRs.inv {ρ : Lab} {vs : List V} {xs : List Value} (h : VRs ρ vs xs) : VRsi ρ vs xs := by
  cases h with
  | nil => exact rfl
  | cons a b => exact ⟨_, _, rfl, a, b⟩
theorem VRs.mono {ρ ρ' : Lab} (h : LabLe ρ ρ') {vs : List V} {xs : List Value} (r : VRs ρ vs xs) : VRs ρ' vs xs := by
  induction r with
  | nil => exact .nil
  | cons a _ ih => exact .cons (a.mono h) ih
theorem VRs.length {ρ : Lab} {vs : List V} {xs : List Value} (r : VRs ρ vs xs) : xs.length = vs.length := by
  induction r with
  | nil => rfl
  | cons a _ ih => exact congrArg (· + 1) ih
theorem VRs.append {ρ : Lab} {vs : List V} {xs : List Value} {us : List V} {ys : List Value} (r : VRs ρ vs xs) (t : VRs ρ us ys) : VRs ρ (vs ++ us) (xs ++ ys) := by
  induction r with
  | nil => exact t
  | cons a _ ih => exact .cons a ih
theorem VRs.of_get {ρ : Lab} {vs : List V} : ∀ {xs : List Value}, xs.length = vs.length → (∀ i v, vs[i]? = some v → VR ρ v (getN .none i xs)) → VRs ρ vs xs := by
  induction vs with
  | nil => intro xs hl _; exact List.eq_nil_of_length_eq_zero hl ▸ .nil
  | cons v vs ih =>
    intro xs hl h
    cases xs with
    | nil => exact absurd hl.symm (Nat.succ_ne_zero _)
    | cons x xs => exact .cons (h 0 v rfl) (ih (Nat.succ.inj hl) fun i u e => h (i + 1) u e)
theorem VRs.to_get {ρ : Lab} {vs : List V} {xs : List Value} (r : VRs ρ vs xs) : ∀ i v, vs[i]? = some v → VR ρ v (getN .none i xs) := by
  induction r with
  | nil => intro i v e; exact nomatch (show (none : Option V) = some v from e)
  | cons a _ ih =>
    intro i v e
    cases i with
    | zero => exact Option.some.inj e ▸ a
    | succ i => exact ih i v e
theorem VR.tr' {ρ : Lab} {vs : List V} {xs : List Value} {a : Addr} {n : Nat} (h : (a, listOf xs.toArray n) ∈ ρ.im) (hv : VRs ρ vs xs) (hc : vs.all closedV = true) (hz : vs.length ≤ sizeLine) : VR ρ (.tr vs) (.ref a) :=
  .tr h hv.length hc hz hv.to_get
/-- closed values ask the staying lists alone -/
theorem VR.closed {ρ ρ' : Lab} (hi : ∀ p ∈ ρ.im, p ∈ ρ'.im) {v : V} {x : Value} (h : VR ρ v x) (hc : closedV v = true) : VR ρ' v x := by
  induction h with
  | ref e => exact nomatch hc
  | none => exact .none
  | bool b => exact .bool b
  | int i t => exact .int i t
  | str s t h => exact .str s t h
  | flt b t h => exact .flt b t h
  | raw a => exact .raw a
  | ty n => exact .ty n
  | bi n => exact .bi n
  | tr a b c d e ih => exact .tr (hi _ a) b c d fun i v hv => ih i v hv (List.all_eq_true.mp c v (List.mem_of_getElem? hv))
  | tri a b c => exact .tri (hi _ a) b c
  | trs a b c d => exact .trs (hi _ a) b c d
  | rng a => exact .rng (hi _ a)
theorem VRs.ints {ρ : Lab} {ns : List Int} {xs : List Value} (r : IntsAre xs ns) : VRs ρ (ns.map .int) xs := by
  induction r with
  | nil => exact .nil
  | cons n t _ ih => exact .cons (.int n t) ih
theorem VRs.to_ints {ρ : Lab} {ns : List Int} : ∀ {xs : List Value}, VRs ρ (ns.map .int) xs → IntsAre xs ns := by
  induction ns with
  | nil => intro xs h; exact (show xs = [] from h.inv) ▸ .nil
  | cons n ns ih =>
    intro xs h
    obtain ⟨x, ys, rfl, hx, hr⟩ := h.inv
    obtain ⟨t, rfl⟩ := hx.inv
    exact .cons n t (ih hr)
theorem VRs.strs {ρ : Lab} {ss : List Str} {xs : List Value} (r : StrsAre xs ss) : (∀ y ∈ ss, y.length ≤ sizeLine) → VRs ρ (ss.map .str) xs := by
  induction r with
  | nil => exact fun _ => .nil
  | cons y t _ ih => exact fun hl => .cons (.str y t (hl y (.head _))) (ih fun z hz => hl z (.tail _ hz))
theorem VRs.to_strs {ρ : Lab} {ss : List Str} : ∀ {xs : List Value}, VRs ρ (ss.map .str) xs → StrsAre xs ss ∧ ∀ y ∈ ss, y.length ≤ sizeLine := by
  induction ss with
  | nil => intro xs h; exact ⟨(show xs = [] from h.inv) ▸ .nil, fun _ h => nomatch h⟩
  | cons s ss ih =>
    intro xs h
    obtain ⟨x, ys, rfl, hx, hr⟩ := h.inv
    obtain ⟨t, rfl, hl⟩ := hx.inv
    exact ⟨.cons s t (ih hr).1, List.forall_mem_cons.mpr ⟨hl, (ih hr).2⟩⟩
/-- the items of a frozen list -/
noncomputable def itemsV : V → Option (List V)
  | .tr vs => some vs
  | .tri ns => some (ns.map .int)
  | .trs ss => some (ss.map .str)
  | _ => none
theorem no' {α : Type} {x : α} {P : Prop} (e : (none : Option α) = some x) : P := nomatch e
/-- a frozen list, as it lies -/
structure FrozenAt (ρ : Lab) (val : Value) (vs : List V) (a : Addr) (xs : List Value) (n : Nat) : Prop where
  e : val = .ref a
  im : (a, listOf xs.toArray n) ∈ ρ.im
  vr : VRs ρ vs xs
  sz : vs.length ≤ sizeLine
theorem VR.frozen {ρ : Lab} {v : V} {val : Value} {vs : List V} (h : VR ρ v val) (e : itemsV v = some vs) : ∃ a xs n, FrozenAt ρ val vs a xs n := by
  have g := h.inv
  cases v with
  | tr us => obtain ⟨a, xs, n, h0, h1, h2, h3, h4, h5⟩ := g; exact Option.some.inj e ▸ ⟨a, xs, n, h0, h1, .of_get h2 h5, h4⟩
  | tri us => obtain ⟨a, xs, n, h0, h1, h2, h3⟩ := g; exact Option.some.inj e ▸ ⟨a, xs, n, h0, h1, .ints h2, List.length_map (as := us) _ ▸ h3⟩
  | trs us => obtain ⟨a, xs, n, h0, h1, h2, h3, h4⟩ := g; exact Option.some.inj e ▸ ⟨a, xs, n, h0, h1, .strs h2 h4, List.length_map (as := us) _ ▸ h3⟩
  | _ => exact no' e
theorem VRs.get {ρ : Lab} {vs : List V} {xs : List Value} (r : VRs ρ vs xs) : ∀ {i : Nat} {v : V}, vs[i]? = some v → ∃ x, xs[i]? = some x ∧ VR ρ v x := by
  induction r with
  | nil => exact fun {i v} e => nomatch (show (none : Option V) = some v from e)
  | cons a _ ih =>
    intro i v e
    cases i with
    | zero => exact ⟨_, rfl, Option.some.inj e ▸ a⟩
    | succ i => exact ih (i := i) e

noncomputable abbrev sEq := PySem.W.Fast.sEq
theorem sEq_iff {a b : Str} : sEq a b = true ↔ a = b := PySem.W.Fast.sEq_iff
theorem sEq_false {a b : Str} (h : sEq a b = false) : a ≠ b := fun e => by rw [sEq_iff.mpr e] at h; cases h
theorem sEq_self (a : Str) : sEq a a = true := sEq_iff.mpr rfl

noncomputable abbrev Loc := List (Str × V)
noncomputable def getA {α : Type} (x : Str) : List (Str × α) → Option α
  | [] => none
  | (y, v) :: r => match sEq x y with | true => some v | false => getA x r
noncomputable def putA {α : Type} (x : Str) (v : α) : List (Str × α) → List (Str × α)
  | [] => [(x, v)]
  | (y, u) :: r => match sEq x y with | true => (y, v) :: r | false => (y, u) :: putA x v r
theorem getA_putA {α : Type} (x : Str) (v : α) (l : List (Str × α)) (y : Str) : getA y (putA x v l) = (match sEq y x with | true => some v | false => getA y l) := by
  induction l with
  | nil => rfl
  | cons p r ih =>
    obtain ⟨z, u⟩ := p
    show getA y (match sEq x z with | true => (z, v) :: r | false => (z, u) :: putA x v r) = (match sEq y x with | true => some v | false => (match sEq y z with | true => some u | false => getA y r))
    cases h : sEq x z with
    | true =>
      rw [sEq_iff.mp h]
      show (match sEq y z with | true => some v | false => getA y r) = _
      cases sEq y z <;> rfl
    | false =>
      show (match sEq y z with | true => some u | false => getA y (putA x v r)) = _
      cases h2 : sEq y z with
      | true =>
        rw [show sEq y x = false by
          cases h3 : sEq y x with
          | false => rfl
          | true => rw [← sEq_iff.mp h2, sEq_iff.mp h3, sEq_self] at h; cases h]
      | false => exact ih

theorem lookup_getA {α : Type} (x : Str) (l : List (Str × α)) : l.lookup x = getA x l := by
  induction l with
  | nil => rfl
  | cons p r ih =>
    show (match x == p.1 with | true => some p.2 | false => r.lookup x) = (match sEq x p.1 with | true => some p.2 | false => getA x r)
    cases h : sEq x p.1 with
    | true => rw [sEq_iff.mp h, beq_self_eq_true]
    | false => rw [beq_eq_false_iff_ne.mpr (sEq_false h)]; exact ih

/-- an empty deque -/
noncomputable abbrev dqObj : Obj := { cls := .type "collections.deque", data := .fields #[.none, rawInt 0] }
set_option genSizeOf false in
set_option genInjectivity false in
inductive O where
  | dq
  | list (vs : List V)
  | nums (ns : List Int)
  | tup (vs : List V)
  | inst (C : Addr) (as : List (Str × V))
  | cell (v : Option V)
  | obj (o : Obj)

set_option genSizeOf false in
set_option genInjectivity false in
structure St where
  objs : List (Nat × O)
  next : Nat

inductive AR (ρ : Lab) (P : Params) : List (Str × V) → List DictEntry → Prop
  | nil : AR ρ P [] []
  | cons {x : Str} {t : Tok} {v : V} {val : Value} {as : List (Str × V)} {es : List DictEntry} : VR ρ v val → AR ρ P as es → AR ρ P ((x, v) :: as) (⟨PyData.keyHash P x, .str x t, val⟩ :: es)
theorem AR.mono {ρ ρ' : Lab} {P : Params} (h : LabLe ρ ρ') {as : List (Str × V)} {es : List DictEntry} (r : AR ρ P as es) : AR ρ' P as es := by
  induction r with
  | nil => exact .nil
  | cons a _ ih => exact .cons (a.mono h) ih
theorem isStr_sEq (y x : Str) (t : Tok) : Value.isStr (.str y t) x = sEq x y := by
  show (y == x) = sEq x y
  cases h : sEq x y with
  | true => rw [sEq_iff.mp h, beq_self_eq_true]
  | false => exact beq_eq_false_iff_ne.mpr (sEq_false h).symm
theorem AR.noRef {ρ : Lab} {P : Params} {as : List (Str × V)} {es : List DictEntry} (r : AR ρ P as es) : es.any (·.refKey) = false := by
  induction r with
  | nil => rfl
  | cons a _ ih => exact ih
theorem AR.length {ρ : Lab} {P : Params} {as : List (Str × V)} {es : List DictEntry} (r : AR ρ P as es) : es.length = as.length := by
  induction r with
  | nil => rfl
  | cons a _ ih => exact congrArg (· + 1) ih
/-- where a name is found -/
noncomputable def FoundE (ρ : Lab) (P : Params) (x : Str) (es : List DictEntry) : Option V → Prop
  | some v => ∃ e, es.find? (·.key.isStr x) = some e ∧ VR ρ v e.val
  | none => es.find? (·.key.isStr x) = none
theorem AR.find {ρ : Lab} {P : Params} (x : Str) {as : List (Str × V)} {es : List DictEntry} (r : AR ρ P as es) : FoundE ρ P x es (getA x as) := by
  induction r with
  | nil => rfl
  | @cons y t v val as es a _ ih =>
    show FoundE ρ P x _ (match sEq x y with | true => some v | false => getA x as)
    have k : (⟨PyData.keyHash P y, .str y t, val⟩ :: es : List DictEntry).find? (·.key.isStr x) = (match sEq x y with | true => some ⟨PyData.keyHash P y, .str y t, val⟩ | false => es.find? (·.key.isStr x)) := by
      rw [← isStr_sEq y x t]; rfl
    cases h : sEq x y with
    | true => rw [h] at k; exact ⟨_, k, a⟩
    | false =>
      rw [h] at k
      revert ih
      show FoundE ρ P x es (getA x as) → FoundE ρ P x _ (getA x as)
      cases getA x as with
      | none => exact fun ih => k.trans ih
      | some v => exact fun ⟨e, h1, h2⟩ => ⟨e, k.trans h1, h2⟩
theorem AR.getL {ρ : Lab} {P : Params} {as : List (Str × V)} {es : List DictEntry} (r : AR ρ P as es) {x : Str} {v : V} (e : getA x as = some v) : ∃ val, getL x es = some (some val) ∧ VR ρ v val := by
  have f := r.find x
  rw [e] at f
  obtain ⟨en, h1, h2⟩ := f
  exact ⟨en.val, by unfold PySem.W.getL; rw [h1], h2⟩
theorem AR.getL_none {ρ : Lab} {P : Params} {as : List (Str × V)} {es : List DictEntry} (r : AR ρ P as es) {x : Str} (e : getA x as = none) : PySem.W.getL x es = some none := by
  have f := r.find x
  rw [e] at f
  unfold PySem.W.getL
  rw [show es.find? (·.key.isStr x) = none from f, r.noRef]
  rfl
theorem AR.getL_some {ρ : Lab} {P : Params} {as : List (Str × V)} {es : List DictEntry} (r : AR ρ P as es) (x : Str) : (PySem.W.getL x es).isSome = true := by
  cases h : getA x as with
  | none => rw [r.getL_none h]; rfl
  | some v => obtain ⟨val, h1, _⟩ := r.getL h; rw [h1]; rfl
theorem AR.put {ρ : Lab} {P : Params} {x : Str} {v : V} {val : Value} {t : Tok} (hv : VR ρ v val) {as : List (Str × V)} {es : List DictEntry} (r : AR ρ P as es) :
    AR ρ P (putA x v as) (putL x (PyData.keyHash P x) (.str x t) val es) := by
  induction r with
  | nil => exact .cons hv .nil
  | @cons y u v₂ val₂ as es a b ih =>
    show AR ρ P (match sEq x y with | true => (y, v) :: as | false => (y, v₂) :: putA x v as) _
    unfold putL
    rw [isStr_sEq]
    cases h : sEq x y with
    | true => exact .cons hv b
    | false => exact .cons a ih
theorem putA_length {α : Type} (x : Str) (v : α) (l : List (Str × α)) : (putA x v l).length ≤ l.length + 1 := by
  induction l with
  | nil => exact Nat.le_refl _
  | cons p r ih =>
    show List.length (match sEq x p.1 with | true => (p.1, v) :: r | false => (p.1, p.2) :: putA x v r) ≤ _
    cases sEq x p.1 with
    | true => exact Nat.le_succ _
    | false => exact Nat.succ_le_succ ih

/-- what stands for an entry of the table -/
inductive OAt (P : Params) (ρ : Lab) : O → Addr → List (Addr × Obj) → Prop
  | dq {a : Addr} : OAt P ρ .dq a [(a, dqObj)]
  | list {a : Addr} {n : Nat} {vs : List V} {xs : List Value} : VRs ρ vs xs → vs.length ≤ sizeLine → OAt P ρ (.list vs) a [(a, listOf xs.toArray n)]
  | nums {a : Addr} {n : Nat} {is : List Int} {xs : List Value} : IntsAre xs is → is.length ≤ sizeLine → OAt P ρ (.nums is) a [(a, listOf xs.toArray n)]
  | tup {a : Addr} {n : Nat} {vs : List V} {xs : List Value} : VRs ρ vs xs → OAt P ρ (.tup vs) a [(a, { cls := .type "tuple", data := .seq xs.toArray n })]
  | inst {a dx : Addr} {n : Nat} {C : Addr} {as : List (Str × V)} {es : List DictEntry} : AR ρ P as es → OAt P ρ (.inst C as) a [(a, instObj C dx), (dx, dictOf es n)]
  | cell {a : Addr} {o : Obj} {v : V} {x : Value} : VR ρ v x → o.data = .cell (some x) → OAt P ρ (.cell (some v)) a [(a, o)]
  | cell0 {a : Addr} {o : Obj} : o.data = .cell none → OAt P ρ (.cell none) a [(a, o)]
  | obj {a : Addr} {o : Obj} : OAt P ρ (.obj o) a [(a, o)]
noncomputable def OAti (P : Params) (ρ : Lab) (a : Addr) (l : List (Addr × Obj)) : O → Prop
  | .dq => l = [(a, dqObj)]
  | .list vs => ∃ n xs, l = [(a, listOf xs.toArray n)] ∧ VRs ρ vs xs ∧ vs.length ≤ sizeLine
  | .nums is => ∃ n xs, l = [(a, listOf xs.toArray n)] ∧ IntsAre xs is ∧ is.length ≤ sizeLine
  | .tup vs => ∃ n xs, l = [(a, { cls := .type "tuple", data := .seq xs.toArray n })] ∧ VRs ρ vs xs
  | .inst C as => ∃ dx n es, l = [(a, instObj C dx), (dx, dictOf es n)] ∧ AR ρ P as es
  | .cell (some v) => ∃ o x, l = [(a, o)] ∧ VR ρ v x ∧ o.data = .cell (some x)
  | .cell none => ∃ o, l = [(a, o)] ∧ o.data = .cell none
  | .obj o => l = [(a, o)]
theorem OAt.inv {P : Params} {ρ : Lab} {o : O} {a : Addr} {l : List (Addr × Obj)} (h : OAt P ρ o a l) : OAti P ρ a l o := by
  cases h with
  | dq => exact rfl
  | list v z => exact ⟨_, _, rfl, v, z⟩
  | nums v z => exact ⟨_, _, rfl, v, z⟩
  | tup v => exact ⟨_, _, rfl, v⟩
  | inst v => exact ⟨_, _, _, rfl, v⟩
  | cell v d => exact ⟨_, _, rfl, v, d⟩
  | cell0 d => exact ⟨_, rfl, d⟩
  | obj => exact rfl
theorem OAt.mono {P : Params} {ρ ρ' : Lab} (h : LabLe ρ ρ') {o : O} {a : Addr} {l : List (Addr × Obj)} (t : OAt P ρ o a l) : OAt P ρ' o a l := by
  cases t with
  | dq => exact .dq
  | list v z => exact .list (v.mono h) z
  | nums v z => exact .nums v z
  | tup v => exact .tup (v.mono h)
  | inst v => exact .inst (v.mono h)
  | cell v d => exact .cell (v.mono h) d
  | cell0 d => exact .cell0 d
  | obj => exact .obj
inductive Tab (P : Params) (ρ : Lab) (rest : List (Addr × Obj) → Prop) : List (Nat × O) → List (Addr × Obj) → Prop
  | nil {l : List (Addr × Obj)} : rest l → Tab P ρ rest [] l
  | cons {k : Nat} {a : Addr} {o : O} {l : List (Addr × Obj)} {os ns} : ρ.of k = some a → OAt P ρ o a l → Tab P ρ rest os ns → Tab P ρ rest ((k, o) :: os) (l ++ ns)
theorem Tab.mono {P : Params} {ρ ρ' : Lab} {rest : List (Addr × Obj) → Prop} (h : LabLe ρ ρ') {os : List (Nat × O)} {ns : List (Addr × Obj)} (t : Tab P ρ rest os ns) : Tab P ρ' rest os ns := by
  induction t with
  | nil r => exact .nil r
  | cons e o _ ih => exact .cons (h.of _ _ e) (o.mono h) ih
noncomputable def getO (k : Nat) : List (Nat × O) → Option O
  | [] => none
  | (j, o) :: r => match Nat.beq k j with | true => some o | false => getO k r
noncomputable def putO (k : Nat) (o : O) : List (Nat × O) → List (Nat × O)
  | [] => []
  | (j, u) :: r => match Nat.beq k j with | true => (j, o) :: r | false => (j, u) :: putO k o r
noncomputable def delO (k : Nat) : List (Nat × O) → List (Nat × O)
  | [] => []
  | (j, u) :: r => match Nat.beq k j with | true => r | false => (j, u) :: delO k r
theorem beq_eq {a b : Nat} (h : Nat.beq a b = true) : a = b := Nat.eq_of_beq_eq_true h
theorem OAt.tab {P : Params} {ρ : Lab} {rest : List (Addr × Obj) → Prop} {k : Nat} {o : O} {a : Addr} {l ns : List (Addr × Obj)} {os : List (Nat × O)} (h : OAt P ρ o a l) (e : ρ.of k = some a) (t : Tab P ρ rest os ns) : Tab P ρ rest ((k, o) :: os) (l ++ ns) := .cons e h t
/-- the first entry of a table -/
structure TCons (P : Params) (ρ : Lab) (rest : List (Addr × Obj) → Prop) (k : Nat) (o : O) (os : List (Nat × O)) (ns : List (Addr × Obj)) (a : Addr) (l ns' : List (Addr × Obj)) : Prop where
  of : ρ.of k = some a
  at_ : OAt P ρ o a l
  e : ns = l ++ ns'
  tab : Tab P ρ rest os ns'
/-- an object of the table: where it lies, and what the table becomes when another is put in its place -/
structure TAt (P : Params) (ρ : Lab) (rest : List (Addr × Obj) → Prop) (k : Nat) (os : List (Nat × O)) (ns : List (Addr × Obj)) (o : O) (a : Addr) (l pre post : List (Addr × Obj)) : Prop where
  of : ρ.of k = some a
  at_ : OAt P ρ o a l
  e : ns = pre ++ (l ++ post)
  put : ∀ o' l', OAt P ρ o' a l' → Tab P ρ rest (putO k o' os) (pre ++ (l' ++ post))
  del : Tab P ρ rest (delO k os) (pre ++ post)
theorem TAt.tail {P : Params} {ρ : Lab} {rest : List (Addr × Obj) → Prop} {j k : Nat} {u o : O} {os : List (Nat × O)} {ns l₀ : List (Addr × Obj)} {a b : Addr} {l pre post : List (Addr × Obj)} (h : Nat.beq k j = false) (e : ρ.of j = some b) (x : OAt P ρ u b l₀)
    (t : TAt P ρ rest k os ns o a l pre post) : TAt P ρ rest k ((j, u) :: os) (l₀ ++ ns) o a l (l₀ ++ pre) post :=
  ⟨t.of, t.at_, by rw [t.e, List.append_assoc], fun o' l' h' => by
    rw [List.append_assoc, show putO k o' ((j, u) :: os) = (j, u) :: putO k o' os by show (match Nat.beq k j with | true => (j, o') :: os | false => (j, u) :: putO k o' os) = _; rw [h]]
    exact .cons e x (t.put o' l' h'), by
    rw [List.append_assoc, show delO k ((j, u) :: os) = (j, u) :: delO k os by show (match Nat.beq k j with | true => os | false => (j, u) :: delO k os) = _; rw [h]]
    exact .cons e x t.del⟩
theorem TAt.head {P : Params} {ρ : Lab} {rest : List (Addr × Obj) → Prop} {k : Nat} {o : O} {os : List (Nat × O)} {ns l : List (Addr × Obj)} {a : Addr} (e : ρ.of k = some a) (x : OAt P ρ o a l) (t : Tab P ρ rest os ns) : TAt P ρ rest k ((k, o) :: os) (l ++ ns) o a l [] ns :=
  ⟨e, x, rfl, fun o' l' h' => by
    rw [List.nil_append, show putO k o' ((k, o) :: os) = (k, o') :: os by show (match Nat.beq k k with | true => (k, o') :: os | false => (k, o) :: putO k o' os) = _; rw [Nat.beq_refl]]
    exact .cons e h' t, by
    rw [show delO k ((k, o) :: os) = os by show (match Nat.beq k k with | true => os | false => (k, o) :: delO k os) = _; rw [Nat.beq_refl]]
    exact t⟩
theorem Tab.at_ {P : Params} {ρ : Lab} {rest : List (Addr × Obj) → Prop} {k : Nat} {os : List (Nat × O)} {ns : List (Addr × Obj)} {o : O} (t : Tab P ρ rest os ns) : getO k os = some o →
    ∃ a l pre post, TAt P ρ rest k os ns o a l pre post := by
  induction t with
  | nil => exact fun e => no' e
  | @cons j b u l₀ os ns hb hu t' ih =>
    show (match Nat.beq k j with | true => some u | false => getO k os) = some o → _
    cases h : Nat.beq k j with
    | true =>
      intro e
      have e := Option.some.inj e
      have h := beq_eq h
      subst e h
      exact ⟨b, l₀, [], ns, .head hb hu t'⟩
    | false =>
      intro e
      obtain ⟨a, l, pre, post, X⟩ := ih e
      exact ⟨a, l, l₀ ++ pre, post, X.tail h hb hu⟩

/-! the frames behind: their names' objects lie in the ledger, with any slots -/
noncomputable abbrev Outs := List (Addr × (Str → Option Value))
noncomputable def ObjNs (o : Obj) (m : Str → Option Value) : Prop := ∃ es ep, o.data = .dict es ep ∧ StrKeys es ∧ ∀ name, nsFind es name = m name
inductive Frs : Outs → List (Addr × Obj) → Prop
  | nil : Frs [] []
  | cons {L : Addr} {m : Str → Option Value} {o : Obj} {outs : Outs} {fs : List (Addr × Obj)} : ObjNs o m → Frs outs fs → Frs ((L, m) :: outs) ((L, o) :: fs)
set_option genSizeOf false in
set_option genInjectivity false in
/-- what lies around a frame: the frames behind, its cells, raw objects that stay -/
structure Fx where
  fs : Outs
  cl : List (Str × Addr)
  raw : List (Addr × Obj)
set_option genSizeOf false in
set_option genInjectivity false in
/-- what is the same for the whole call -/
structure Glo where
  os : OsState
/-- join's code table, as it grows -/
noncomputable abbrev tbO (ps : Array Value) : Obj := { cls := .none, data := .fields ps }
noncomputable def ctJoin (l : List (Addr × Obj)) : Prop := ∃ ps : Array Value, l = [(780, tbO ps)] ∧ TriplesOk ps.toList
noncomputable def Glo.ct (_ : Glo) : List (Addr × Obj) → Prop := ctJoin
theorem Frs.snoc {L : Addr} {m : Str → Option Value} {o : Obj} {outs : Outs} {fs : List (Addr × Obj)} (f : Frs outs fs) (h : ObjNs o m) : Frs (outs ++ [(L, m)]) (fs ++ [(L, o)]) := by
  induction f with
  | nil => exact .cons h .nil
  | cons a _ ih => exact .cons a ih
noncomputable def Frsi : Outs → List (Addr × Obj) → Prop
  | [], fs => fs = []
  | (L, m) :: outs, fs => ∃ o fs', fs = (L, o) :: fs' ∧ ObjNs o m ∧ Frs outs fs'
theorem Frs.inv {outs : Outs} {fs : List (Addr × Obj)} (f : Frs outs fs) : Frsi outs fs := by
  cases f with
  | nil => exact rfl
  | cons a b => exact ⟨_, _, rfl, a, b⟩
theorem Frs.unsnoc {L : Addr} {m : Str → Option Value} {outs : Outs} : ∀ {fs : List (Addr × Obj)}, Frs (outs ++ [(L, m)]) fs → ∃ fs' o, fs = fs' ++ [(L, o)] ∧ Frs outs fs' ∧ ObjNs o m := by
  induction outs with
  | nil =>
    intro fs h
    obtain ⟨o, fs', rfl, h1, h2⟩ := h.inv
    exact ⟨[], o, congrArg _ (show fs' = [] from h2.inv), .nil, h1⟩
  | cons p outs ih =>
    intro fs h
    obtain ⟨o, fs', rfl, h1, h2⟩ := h.inv
    obtain ⟨gs, o', e, h3, h4⟩ := ih h2
    exact ⟨(p.1, o) :: gs, o', congrArg _ e, .cons h1 h3, h4⟩
structure RestAt (g : Glo) (x : Fx) (im l c fs : List (Addr × Obj)) : Prop where
  e : l = x.raw ++ (im ++ (c ++ fs))
  ct : g.ct c
  fr : Frs x.fs fs
noncomputable def RestIs (g : Glo) (x : Fx) (im l : List (Addr × Obj)) : Prop := ∃ c fs, RestAt g x im l c fs
/-- a table's rest, taken for itself -/
structure TParts (P : Params) (ρ : Lab) (R : List (Addr × Obj) → Prop) (os : List (Nat × O)) (ns pre l : List (Addr × Obj)) : Prop where
  e : ns = pre ++ l
  r : R l
  put : ∀ (R' : List (Addr × Obj) → Prop) l', R' l' → Tab P ρ R' os (pre ++ l')
theorem Tab.parts {P : Params} {ρ : Lab} {R : List (Addr × Obj) → Prop} {os : List (Nat × O)} {ns : List (Addr × Obj)} (t : Tab P ρ R os ns) : ∃ pre l, TParts P ρ R os ns pre l := by
  induction t with
  | nil r => exact ⟨[], _, rfl, r, fun _ _ r' => .nil r'⟩
  | @cons k a o l₀ os ns e x t ih =>
    obtain ⟨pre, l, X⟩ := ih
    exact ⟨l₀ ++ pre, l, by rw [X.e, List.append_assoc], X.r, fun R' l₂ r' => by rw [List.append_assoc]; exact .cons e x (X.put R' l₂ r')⟩
theorem Tab.app {P : Params} {ρ : Lab} {R R' : List (Addr × Obj) → Prop} {e : List (Addr × Obj)} (h : ∀ l, R l → R' (l ++ e)) {os : List (Nat × O)} {ns : List (Addr × Obj)} (t : Tab P ρ R os ns) : Tab P ρ R' os (ns ++ e) := by
  obtain ⟨pre, l, X⟩ := t.parts
  rw [X.e, List.append_assoc]
  exact X.put R' _ (h l X.r)

/-- a name's value: in its cell, or among the frame's names -/
noncomputable def CellV (ρ : Lab) (c : Addr) (v : V) : Prop := (∃ k, v = .ref k ∧ ρ.of k = some c) ∨ v = .raw c
noncomputable def LocR (cl : List (Str × Addr)) (m : Str → Option Value) (ρ : Lab) (y : Str) (v : V) : Prop := match cl.lookup y with
  | some c => CellV ρ c v
  | none => ∃ val, m y = some val ∧ VR ρ v val
theorem LocR.get {cl : List (Str × Addr)} {m : Str → Option Value} {ρ : Lab} {y : Str} {v : V} (h : LocR cl m ρ y v) (e : cl.lookup y = none) : ∃ val, m y = some val ∧ VR ρ v val := by
  unfold LocR at h; rw [e] at h; exact h
theorem LocR.cell {cl : List (Str × Addr)} {m : Str → Option Value} {ρ : Lab} {y : Str} {v : V} {c : Addr} (h : LocR cl m ρ y v) (e : cl.lookup y = some c) : CellV ρ c v := by
  unfold LocR at h; rw [e] at h; exact h
theorem LocR.of {cl : List (Str × Addr)} {m : Str → Option Value} {ρ : Lab} {y : Str} {v : V} (e : cl.lookup y = none) (h : ∃ val, m y = some val ∧ VR ρ v val) : LocR cl m ρ y v := by
  unfold LocR; rw [e]; exact h
theorem LocR.ofCell {cl : List (Str × Addr)} {m : Str → Option Value} {ρ : Lab} {y : Str} {v : V} {c : Addr} (e : cl.lookup y = some c) (h : CellV ρ c v) : LocR cl m ρ y v := by
  unfold LocR; rw [e]; exact h
/-- told anew: what both asks are met by -/
theorem LocR.map {cl : List (Str × Addr)} {m m' : Str → Option Value} {ρ ρ' : Lab} {y : Str} {v v' : V} (h : LocR cl m ρ y v) (hc : ∀ c, CellV ρ c v → CellV ρ' c v') (hn : ∀ val, m y = some val → VR ρ v val → ∃ val', m' y = some val' ∧ VR ρ' v' val') : LocR cl m' ρ' y v' := by
  cases e : cl.lookup y with
  | none => obtain ⟨val, h1, h2⟩ := h.get e; exact .of e (hn val h1 h2)
  | some c => exact .ofCell e (hc c (h.cell e))
theorem CellV.mono {ρ ρ' : Lab} {c : Addr} {v : V} (le : LabLe ρ ρ') (h : CellV ρ c v) : CellV ρ' c v := h.imp (fun ⟨k, e, h⟩ => ⟨k, e, le.of _ _ h⟩) id
theorem LocR.mono {cl : List (Str × Addr)} {m : Str → Option Value} {ρ ρ' : Lab} {y : Str} {v : V} (h : LocR cl m ρ y v) (le : LabLe ρ ρ') : LocR cl m ρ' y v :=
  h.map (fun _ g => g.mono le) fun val e g => ⟨val, e, g.mono le⟩
structure RFr (h₀ : Heap) (L : Addr) (cl : List (Str × Addr)) (loc : Loc) (ρ : Lab) (h : Heap) (m : Str → Option Value) : Prop where
  F : Fr h₀ L h m
  hm : ∀ x v, getA x loc = some v → LocR cl m ρ x v
structure RLed (w : World) (os₀ : Glo) (h₀ : Heap) (L : Addr) (outs : Fx) (st : St) (ρ : Lab) (h : Heap) (ns : List (Addr × Obj)) : Prop where
  N : News h₀ L h ns
  T : Tab w.params ρ (RestIs os₀ outs ρ.im) st.objs ns
  nd : (ns.map (·.1)).Nodup
/-- the relation: clean state against machine state, in the frame L over the ground h₀ -/
structure R (w : World) (os₀ : Glo) (h₀ : Heap) (L : Addr) (outs : Fx) (loc : Loc) (st : St) (ρ : Lab) (s : Shared) : Prop where
  fr : ∃ m, RFr h₀ L outs.cl loc ρ s.heap m
  led : ∃ ns, RLed w os₀ h₀ L outs st ρ s.heap ns
  free : ∀ j, st.next ≤ j → ρ.of j = none
  os : s.os = os₀.os
  gens : AllBare s.gens
  tok : 0 < s.toks
end Mine
end
section
open PySem PySem.W PyProof.Rows PySem.Calls
set_option Elab.async false
set_option maxRecDepth 100000
set_option genSizeOf false
set_option genInjectivity false
namespace Mine

/-! what the ground must hold -/
structure Gd (K : Frag) (mg mb : Str → Option Value) (h : Heap) : Prop where
  inK : K.In h
  g : h.Ns mainGlobals mg
  b : h.Ns builtinsNs mb
  nolimit : h.NoLimit
  builtins : ∀ x : Str, x ≠ "__name__" → mb x = bootBuiltins x
  booked : NoneBooked h
  bmod : ∃ bm ob, BMod h mainGlobals mg bm ob
theorem booked_keeps {h h' : Heap} (n : NoneBooked h) (k : ∀ b o, h.get? b = some o → h'.get? b = some o) : NoneBooked h' := let ⟨mc, hn, e⟩ := n; ⟨mc, hn.keeps k, e⟩
theorem Gd.keeps {K : Frag} {mg mb : Str → Option Value} {h h' : Heap} (G : Gd K mg mb h) (k : ∀ b o, h.get? b = some o → h'.get? b = some o) : Gd K mg mb h' :=
  ⟨G.inK.keeps k, G.g.keeps k, G.b.keeps k, G.nolimit.keeps k, G.builtins, booked_keeps G.booked k, let ⟨bm, ob, x⟩ := G.bmod; ⟨bm, ob, x.keeps k⟩⟩

/-- a frame's data -/
structure FD where
  A : Around
  h₀ : Heap
  L : Addr
  cs : Scope
  qual : Str
  func : Option Addr
  code : Value
  frame : Option Addr
  outs : Fx
  fr : List Env
noncomputable abbrev FD.env (f : FD) : Env := { scope := f.cs, locals := f.L, globals := mainGlobals, cells := f.outs.cl, qual := f.qual, func := f.func, code := f.code, frame := f.frame, builtins := builtinsNs }
structure FD.Ok (K : Frag) (mg mb : Str → Option Value) (f : FD) : Prop where
  behind : ∀ env ∈ f.fr, env.scope.kind = .function ∧ ∃ a, env.frame = some a ∧ (a = f.L ∨ ∃ p ∈ f.outs.fs, a = p.1)
  frames : f.A.frames = some f.fr
  kind : f.cs.kind = .function
  gd : Gd K mg mb f.h₀
  handled : f.A.handled = none
  loc : ∀ x, f.cs.names.lookup x = some .local → f.outs.cl.lookup x = none
  cel : ∀ x, f.cs.names.lookup x = some .cell → ∃ c, f.outs.cl.lookup x = some c
  fre : ∀ x, f.cs.names.lookup x = some .free → ∃ c, f.outs.cl.lookup x = some c
/-- the same frame with other raw objects about it -/
noncomputable abbrev FD.withRaw (f : FD) (raw : List (Addr × Obj)) : FD := { f with outs := { f.outs with raw := raw } }
theorem FD.Ok.withRaw {K : Frag} {mg mb : Str → Option Value} {f : FD} (h : f.Ok K mg mb) (raw : List (Addr × Obj)) : (f.withRaw raw).Ok K mg mb :=
  ⟨h.behind, h.frames, h.kind, h.gd, h.handled, h.loc, h.cel, h.fre⟩

section
variable {w : World} {os₀ : Glo} {h₀ : Heap} {L : Addr} {outs : Fx} {loc : Loc} {st : St} {ρ : Lab} {s : Shared}
/-- only the tokens moved -/
theorem R.toks (r : R w os₀ h₀ L outs loc st ρ s) (tk : Nat) (htk : s.toks ≤ tk := by omega) : R w os₀ h₀ L outs loc st ρ { s with toks := tk } := ⟨r.fr, r.led, r.free, r.os, r.gens, Nat.lt_of_lt_of_le r.tok htk⟩
theorem R.keep (r : R w os₀ h₀ L outs loc st ρ s) : ∀ b o, h₀.get? b = some o → s.heap.get? b = some o := let ⟨_, F, _⟩ := r.fr; F.keep
/-- the heap grew only: nothing of the old changed -/
theorem R.grown (r : R w os₀ h₀ L outs loc st ρ s) {h' : Heap} {tk : Nat} (k : ∀ b o, s.heap.get? b = some o → h'.get? b = some o) (htk : s.toks ≤ tk := by omega) : R w os₀ h₀ L outs loc st ρ { s with heap := h', toks := tk } := by
  obtain ⟨m, F, hm⟩ := r.fr
  obtain ⟨ns, N, T, nd⟩ := r.led
  exact ⟨⟨m, F.keeps k, hm⟩, ⟨ns, N.grown k, T, nd⟩, r.free, r.os, r.gens, Nat.lt_of_lt_of_le r.tok htk⟩
end

/-! comparisons -/
noncomputable def memN (c : Nat) : List Nat → Bool
  | [] => false
  | d :: r => match Nat.beq c d with | true => true | false => memN c r
theorem memN_eq (c : Nat) (l : List Nat) : memN c l = decide (c ∈ l) := by
  induction l with
  | nil => exact (decide_eq_false List.not_mem_nil).symm
  | cons d r ih =>
    show (match Nat.beq c d with | true => true | false => memN c r) = _
    cases h : Nat.beq c d with
    | true => exact (decide_eq_true (Nat.eq_of_beq_eq_true h ▸ .head _)).symm
    | false => exact ih.trans (decide_eq_decide.mpr ⟨.tail _, fun g => (List.mem_cons.mp g).resolve_left (Nat.ne_of_beq_eq_false h)⟩)
/-- the one sign of a text -/
noncomputable def oneC : List Nat → Option Nat
  | [c] => some c
  | _ => none
theorem oneC_ok {l : List Nat} {c : Nat} (e : oneC l = some c) : l = [c] := by
  cases l with
  | nil => exact no' e
  | cons a r => cases r with
    | nil => exact congrArg (fun x => [x]) (Option.some.inj e)
    | cons _ _ => exact no' e
/-- y in x, y of one sign -/
noncomputable def inS (y x : Str) : Option Bool := match oneC y.cps.toList with
  | some c => some (memN c x.cps.toList)
  | none => none
theorem inS_ok {y x : Str} {b : Bool} (e : inS y x = some b) : (!(Builtin.Str.occurrences x y 0 x.length 1).isEmpty) = b := by
  obtain ⟨⟨l⟩⟩ := y
  cases h : oneC l with
  | none => exact no' (show (none : Option Bool) = some b by rw [← e]; unfold inS; rw [show oneC (Str.mk ⟨l⟩).cps.toList = none from h])
  | some c =>
    have e : some (memN c x.cps.toList) = some b := by rw [← e]; unfold inS; rw [show oneC (Str.mk ⟨l⟩).cps.toList = some c from h]
    rw [← Option.some.inj e, oneC_ok h, memN_eq]
    exact StrLaws.found_one x c
/-- is it None? -/
noncomputable def noneV : V → Option Bool
  | .none => some true
  | .raw _ | .ref _ | .str _ | .int _ | .bool _ | .ty _ => some false
  | _ => none
noncomputable def tyEq : V → V → Option Bool
  | .ty a, b => tyEq1 a b
  | _, _ => none
where tyEq1 (a : String) : V → Option Bool
  | .ty b => some (Value.type a == Value.type b)
  | _ => none
noncomputable def isV (a b : V) : Option Bool := match noneV b with
  | some true => noneV a
  | _ => (match noneV a with
    | some true => noneV b
    | _ => tyEq a b)
noncomputable def notO : Option Bool → Option Bool
  | some c => some !c
  | none => none
theorem notO_ok {o : Option Bool} {c : Bool} (e : notO o = some c) : o = some !c := by
  cases o with
  | none => exact no' e
  | some d => exact congrArg some (show d = !c by rw [← Option.some.inj e, Bool.not_not])
noncomputable def asI : V → Option Int
  | .int i => some i
  | _ => none
theorem asI_ok {v : V} {i : Int} (e : asI v = some i) : v = .int i := by
  cases v with
  | int j => exact congrArg V.int (Option.some.inj e)
  | _ => exact no' e
noncomputable def asS : V → Option Str
  | .str i => some i
  | _ => none
theorem asS_ok {v : V} {i : Str} (e : asS v = some i) : v = .str i := by
  cases v with
  | str j => exact congrArg V.str (Option.some.inj e)
  | _ => exact no' e
/-- two of a kind, put together -/
noncomputable def both {α β : Type} (g : V → Option α) (f : α → α → Option β) (a b : V) : Option β := match g a with
  | some x => (match g b with | some y => f x y | none => none)
  | none => none
theorem both_ok {α β : Type} {g : V → Option α} {f : α → α → Option β} {a b : V} {c : β} (e : both g f a b = some c) : ∃ x y, g a = some x ∧ g b = some y ∧ f x y = some c := by
  unfold both at e
  cases h : g a with
  | none => rw [h] at e; exact no' e
  | some x => cases h2 : g b with
    | none => rw [h, h2] at e; exact no' e
    | some y => rw [h, h2] at e; exact ⟨x, y, rfl, rfl, e⟩
/-- equal? -/
noncomputable def eqS (x : Str) : V → Option Bool
  | .str y => some (sEq x y)
  | .none => some false
  | _ => none
noncomputable def eqN : V → Option Bool
  | .str _ => some false
  | .none => some true
  | _ => none
noncomputable def eqV : V → V → Option Bool
  | .str x, b => eqS x b
  | .none, b => eqN b
  | .int x, b => (match asI b with | some y => some (x == y) | none => none)
  | _, _ => none
noncomputable def cmpV : CmpOp → V → V → Option Bool
  | .Eq, a, b => eqV a b
  | .NotEq, a, b => notO (eqV a b)
  | .Lt, a, b => both asI (fun x y => some (decide (x < y))) a b
  | .LtE, a, b => both asI (fun x y => some (decide (x ≤ y))) a b
  | .Gt, a, b => both asI (fun x y => some (decide (y < x))) a b
  | .GtE, a, b => both asI (fun x y => some (decide (y ≤ x))) a b
  | .In, a, b => both asS inS a b
  | .NotIn, a, b => notO (both asS inS a b)
  | .Is, a, b => isV a b
  | .IsNot, a, b => notO (isV a b)
theorem toList_sEq (x y : Str) : (x.cps.toList == y.cps.toList) = sEq x y := by
  cases h : sEq x y with
  | true => rw [sEq_iff.mp h, beq_self_eq_true]
  | false => exact beq_eq_false_iff_ne.mpr fun e => sEq_false h (congrArg Str.mk (Array.toList_inj.mp e))
section
variable {prog : Program} {w : World} {A : Around} {E : Value → Shared → Prop} {s : Shared} {ρ : Lab} {Q : Value → Shared → Prop}
theorem eq_strS {x y : Str} {t u : Tok} (q : Q (.bool (sEq x y)) s) : wpAny (model prog w) A (compareOp .Eq (.str x t) (.str y u)) Q E s :=
  PySem.P.eq_str (by rw [toList_sEq]; exact q)
theorem ne_strS {x y : Str} {t u : Tok} (q : Q (.bool (!(sEq x y))) s) : wpAny (model prog w) A (compareOp .NotEq (.str x t) (.str y u)) Q E s :=
  PySem.P.ne_str (by rw [show (x.cps.toList != y.cps.toList) = !(x.cps.toList == y.cps.toList) from rfl, toList_sEq]; exact q)
theorem is_of {M : Model} {a b : Value} {c : Bool} (h : isSame a b = pure c) (q : Q (.bool c) s) : wpAny M A (compareOp .Is a b) Q E s := by
  show wpAny M A (do return .bool (← isSame a b)) Q E s
  rw [h]; exact wpAny_bind (wpAny_pure (wpAny_pure q))
theorem isnot_of {M : Model} {a b : Value} {c : Bool} (h : isSame a b = pure c) (q : Q (.bool !c) s) : wpAny M A (compareOp .IsNot a b) Q E s := by
  show wpAny M A (do return .bool (!(← isSame a b))) Q E s
  rw [h]; exact wpAny_bind (wpAny_pure (wpAny_pure q))
theorem noneV_l {v : V} {x : Value} {c : Bool} (e : noneV v = some c) (h : VR ρ v x) : isSame x .none = pure c := by
  have g := h.inv
  cases v with
  | none => rw [show x = .none from g, ← Option.some.inj e]; rfl
  | raw a => rw [show x = .ref a from g, ← Option.some.inj e]; rfl
  | bool a => rw [show x = .bool a from g, ← Option.some.inj e]; rfl
  | ty a => rw [show x = .type a from g, ← Option.some.inj e]; rfl
  | ref k => obtain ⟨a, rfl, _⟩ := g; rw [← Option.some.inj e]; rfl
  | int k => obtain ⟨a, rfl⟩ := g; rw [← Option.some.inj e]; rfl
  | str k => obtain ⟨a, rfl, _⟩ := g; rw [← Option.some.inj e]; rfl
  | _ => exact no' e
theorem noneV_r {v : V} {x : Value} {c : Bool} (e : noneV v = some c) (h : VR ρ v x) : isSame .none x = pure c := by
  have g := h.inv
  cases v with
  | none => rw [show x = .none from g, ← Option.some.inj e]; rfl
  | raw a => rw [show x = .ref a from g, ← Option.some.inj e]; rfl
  | bool a => rw [show x = .bool a from g, ← Option.some.inj e]; rfl
  | ty a => rw [show x = .type a from g, ← Option.some.inj e]; rfl
  | ref k => obtain ⟨a, rfl, _⟩ := g; rw [← Option.some.inj e]; rfl
  | int k => obtain ⟨a, rfl⟩ := g; rw [← Option.some.inj e]; rfl
  | str k => obtain ⟨a, rfl, _⟩ := g; rw [← Option.some.inj e]; rfl
  | _ => exact no' e
theorem noneV_true {v : V} (e : noneV v = some true) : v = .none := by
  cases v with
  | none => rfl
  | _ => exact nomatch e
theorem tyEq_ok {a b : V} {va vb : Value} {c : Bool} (e : tyEq a b = some c) (ha : VR ρ a va) (hb : VR ρ b vb) : isSame va vb = pure c := by
  cases a with
  | ty x => cases b with
    | ty y => rw [show va = .type x from ha.inv, show vb = .type y from hb.inv, ← Option.some.inj e]; rfl
    | _ => exact no' e
  | _ => exact no' e
theorem isSame_of {a b : V} {va vb : Value} {c : Bool} (e : isV a b = some c) (ha : VR ρ a va) (hb : VR ρ b vb) : isSame va vb = pure c := by
  unfold isV at e
  have other : (match noneV a with | some true => noneV b | _ => tyEq a b) = some c → isSame va vb = pure c := by
    cases h : noneV a with
    | none => exact fun e => tyEq_ok e ha hb
    | some d => cases d with
      | false => exact fun e => tyEq_ok e ha hb
      | true => have h := noneV_true h; subst h; rw [show va = .none from ha.inv]; exact fun e => noneV_r e hb
  cases h : noneV b with
  | none => rw [h] at e; exact other (by rw [h]; exact e)
  | some d => cases d with
    | false => rw [h] at e; exact other (by rw [h]; exact e)
    | true => rw [h] at e; have h := noneV_true h; subst h; rw [show vb = .none from hb.inv]; exact noneV_l e ha
theorem eq_sound {a b : V} {va vb : Value} {c : Bool} (e : eqV a b = some c) (ha : VR ρ a va) (hb : VR ρ b vb) :
    (Q (.bool c) s → wpAny (model prog w) A (compareOp .Eq va vb) Q E s) ∧ (Q (.bool !c) s → wpAny (model prog w) A (compareOp .NotEq va vb) Q E s) := by
  cases a with
  | none =>
    rw [show va = .none from ha.inv]
    cases b with
    | none => rw [show vb = .none from hb.inv, ← Option.some.inj e]; exact ⟨EqNone.eq_none_none, EqNone.ne_none_none⟩
    | str y => obtain ⟨u, rfl, _⟩ := hb.inv; rw [← Option.some.inj e]; exact ⟨EqNone.eq_none_str, EqNone.ne_none_str⟩
    | _ => exact no' e
  | str x =>
    obtain ⟨t, rfl, _⟩ := ha.inv
    cases b with
    | none => rw [show vb = .none from hb.inv, ← Option.some.inj e]; exact ⟨EqNone.eq_str_none, EqNone.ne_str_none⟩
    | str y => obtain ⟨u, rfl, _⟩ := hb.inv; rw [← Option.some.inj e]; exact ⟨eq_strS, ne_strS⟩
    | _ => exact no' e
  | int x =>
    obtain ⟨t, rfl⟩ := ha.inv
    cases b with
    | int y => obtain ⟨u, rfl⟩ := hb.inv; rw [← Option.some.inj e]; exact ⟨eq_int, ne_int⟩
    | _ => exact no' e
  | _ => exact no' e
theorem ints_of {a b : V} {va vb : Value} {c : Bool} {f : Int → Int → Bool} (e : both asI (fun x y => some (f x y)) a b = some c) (ha : VR ρ a va) (hb : VR ρ b vb) : ∃ x t y u, va = .int x t ∧ vb = .int y u ∧ c = f x y := by
  obtain ⟨x, y, h1, h2, e⟩ := both_ok e
  rw [asI_ok h1] at ha
  rw [asI_ok h2] at hb
  obtain ⟨t, e1⟩ := ha.inv
  obtain ⟨u, e2⟩ := hb.inv
  exact ⟨x, t, y, u, e1, e2, (Option.some.inj e).symm⟩
theorem strs_of {a b : V} {va vb : Value} {c : Bool} (e : both asS inS a b = some c) (ha : VR ρ a va) (hb : VR ρ b vb) : ∃ x t y u, va = .str y u ∧ vb = .str x t ∧ (!(Builtin.Str.occurrences x y 0 x.length 1).isEmpty) = c := by
  obtain ⟨x, y, h1, h2, e⟩ := both_ok e
  rw [asS_ok h1] at ha
  rw [asS_ok h2] at hb
  obtain ⟨t, e1, _⟩ := ha.inv
  obtain ⟨u, e2, _⟩ := hb.inv
  exact ⟨y, u, x, t, e1, e2, inS_ok e⟩
theorem cmp_sound {op : CmpOp} {a b : V} {va vb : Value} {c : Bool} (e : cmpV op a b = some c) (ha : VR ρ a va) (hb : VR ρ b vb) (q : Q (.bool c) s) : wpAny (model prog w) A (compareOp op va vb) Q E s := by
  cases op with
  | Is => exact is_of (isSame_of e ha hb) q
  | IsNot => exact isnot_of (isSame_of (notO_ok e) ha hb) (by rw [Bool.not_not]; exact q)
  | Eq => exact (eq_sound e ha hb).1 q
  | NotEq => exact (eq_sound (notO_ok e) ha hb).2 (by rw [Bool.not_not]; exact q)
  | Lt => obtain ⟨x, t, y, u, rfl, rfl, rfl⟩ := ints_of e ha hb; exact lt_int q
  | LtE => obtain ⟨x, t, y, u, rfl, rfl, rfl⟩ := ints_of e ha hb; exact le_int q
  | Gt => obtain ⟨x, t, y, u, rfl, rfl, rfl⟩ := ints_of e ha hb; exact gt_int q
  | GtE => obtain ⟨x, t, y, u, rfl, rfl, rfl⟩ := ints_of e ha hb; exact ge_int q
  | In => obtain ⟨x, t, y, u, rfl, rfl, h⟩ := strs_of e ha hb; exact PyProof.Rows.in_str (h ▸ q)
  | NotIn => obtain ⟨x, t, y, u, rfl, rfl, h⟩ := strs_of (notO_ok e) ha hb; exact PyProof.Rows.notIn_str (by rw [h, Bool.not_not]; exact q)
end
end Mine
end
section
open PySem PySem.W PyProof.Rows PySem.Calls
set_option Elab.async false
set_option maxRecDepth 100000
set_option genSizeOf false
set_option genInjectivity false
namespace Mine

/-! the interpreter of clean states, along a path -/
noncomputable abbrev Path := List (Nat × Bool)
noncomputable def bb (c : Bool) (a b : Prop) : Prop := match c with | true => a | false => b
noncomputable def dec (p : Path) (c : Bool) (k : Path → Bool → Prop) : Prop := match p with
  | [] => bb c (k [] true) (k [] false)
  | (n, b) :: r => (match n with
    | 0 => c = b ∧ k r b
    | n + 1 => bb c (k ((n, b) :: r) true) (k ((n, b) :: r) false))
theorem bb_ok {c : Bool} {k : Bool → Prop} (h : bb c (k true) (k false)) : k c := by cases c <;> exact h
theorem dec_ok {p : Path} {c : Bool} {k : Path → Bool → Prop} (h : dec p c k) : ∃ p', k p' c := by
  cases p with
  | nil => exact ⟨[], bb_ok (k := k []) h⟩
  | cons x r =>
    obtain ⟨n, b⟩ := x
    cases n with
    | zero => exact ⟨r, h.1 ▸ h.2⟩
    | succ n => exact ⟨_, bb_ok (k := k ((n, b) :: r)) h⟩
noncomputable def ef (b : Bool) (P : Prop) : Prop := match b with | true => P | false => False
noncomputable def nf (b : Bool) (P : Prop) : Prop := match b with | true => False | false => P
noncomputable def sf {α : Type} (o : Option α) (P : α → Prop) : Prop := match o with | some a => P a | none => False
theorem ef_ok {b : Bool} {P : Prop} (h : ef b P) : b = true ∧ P := by
  cases b with
  | true => exact ⟨rfl, h⟩
  | false => exact h.elim
theorem nf_ok {b : Bool} {P : Prop} (h : nf b P) : b = false ∧ P := by
  cases b with
  | true => exact h.elim
  | false => exact ⟨rfl, h⟩
theorem sf_ok {α : Type} {o : Option α} {P : α → Prop} (h : sf o P) : ∃ a, o = some a ∧ P a := by
  cases o with
  | none => exact h.elim
  | some a => exact ⟨a, rfl, h⟩

inductive Src where
  | arg (i : Nat)
  | kw (j : Nat)
  | const (v : V) (val : Value)
noncomputable def Src.v (vs ks : List V) : Src → V
  | .arg i => getN .none i vs
  | .kw j => getN .none j ks
  | .const v _ => v
noncomputable def Src.val (vs ks : List Value) : Src → Value
  | .arg i => getN .none i vs
  | .kw j => getN .none j ks
  | .const _ v => v
structure FnI where
  f : Addr
  n : Nat
  kws : List Str
  bind : List (Str × Src)
  body : List Stmt
  sc : Scope
  q : Str
  cdv : Value
  cell : List Str
/-- a comprehension by its contract: its place, the names about it, the expression -/
structure CmpE where
  line : Nat
  col : Nat
  ks : List (Str × NameKind)
  e : Expr
  sp : Loc → St → (V → St → Prop) → Prop
structure Gam where
  glob : List (Str × V)
  fns : List FnI
  plain : List (Addr × List Str)
  meth : List (Addr × List (Str × Addr))
  prop : List (Addr × List (Str × Addr))
  bi : List (String × (List V → Option V))
  ty : List (String × (List V → Option V))
  sm : List (Str × String)
  cls : List (Addr × Addr × Bool)
  spec : List (Addr × (List V → St → (V → St → Prop) → Prop)) := []
  specK : List (Addr × List Str × (List V → List V → St → (V → St → Prop) → Prop)) := []
  biS : List (String × (List V → St → (V → St → Prop) → Prop)) := []
  tyS : List (String × (List V → St → (V → St → Prop) → Prop)) := []
  intv : List Str := []
  cmp : List CmpE := []

inductive Fl where
  | next
  | brk
  | cont
  | ret (v : V)
inductive FlR (ρ : Lab) : Fl → Flow → Prop
  | next : FlR ρ .next .next
  | brk : FlR ρ .brk .brk
  | cont : FlR ρ .cont .cont
  | ret {v : V} {x : Value} : VR ρ v x → FlR ρ (.ret v) (.ret x)
noncomputable def FlRi (ρ : Lab) : Fl → Flow → Prop
  | .next, x => x = .next
  | .brk, x => x = .brk
  | .cont, x => x = .cont
  | .ret v, x => ∃ y, x = .ret y ∧ VR ρ v y
theorem FlR.inv {ρ : Lab} {v : Fl} {x : Flow} (h : FlR ρ v x) : FlRi ρ v x := by
  cases h with
  | next => exact rfl
  | brk => exact rfl
  | cont => exact rfl
  | ret h => exact ⟨_, rfl, h⟩

/-- the first that a test takes -/
noncomputable def findT {α β : Type} (t : α → Bool) (g : α → β) : List α → Option β
  | [] => none
  | a :: r => match t a with | true => some (g a) | false => findT t g r
theorem findT_ok {α β : Type} {t : α → Bool} {g : α → β} {b : β} {l : List α} : findT t g l = some b → ∃ a, a ∈ l ∧ t a = true ∧ g a = b := by
  induction l with
  | nil => exact fun h => no' h
  | cons x r ih =>
    show (match t x with | true => some (g x) | false => findT t g r) = some b → _
    cases e : t x with
    | true => exact fun h => ⟨x, .head _, e, Option.some.inj h⟩
    | false => exact fun h => (ih h).imp fun a h => ⟨.tail _ h.1, h.2⟩
noncomputable def hasS (x : Str) : List Str → Bool
  | [] => false
  | y :: r => match sEq x y with | true => true | false => hasS x r
theorem hasS_mem {x : Str} {l : List Str} : hasS x l = true → x ∈ l := by
  induction l with
  | nil => exact fun h => absurd h Bool.false_ne_true
  | cons y r ih =>
    show (match sEq x y with | true => true | false => hasS x r) = true → _
    cases e : sEq x y with
    | true => exact fun _ => sEq_iff.mp e ▸ .head _
    | false => exact fun h => .tail _ (ih h)
noncomputable def getNat {α : Type} (k : Nat) (l : List (Nat × α)) : Option α := findT (fun p => Nat.beq k p.1) (·.2) l
theorem getNat_mem {α : Type} {k : Nat} {a : α} {l : List (Nat × α)} (h : getNat k l = some a) : (k, a) ∈ l := by
  obtain ⟨p, h1, h2, h3⟩ := findT_ok h
  exact beq_eq h2 ▸ h3 ▸ h1
theorem getA_mem {α : Type} {x : Str} {a : α} {l : List (Str × α)} : getA x l = some a → (x, a) ∈ l := by
  induction l with
  | nil => exact fun h => no' h
  | cons p r ih =>
    show (match sEq x p.1 with | true => some p.2 | false => getA x r) = some a → _
    cases e : sEq x p.1 with
    | true => exact fun h => sEq_iff.mp e ▸ Option.some.inj h ▸ .head _
    | false => exact fun h => .tail _ (ih h)
noncomputable def getB {α : Type} (k : String) (l : List (String × α)) : Option α := findT (fun p => decide (k = p.1)) (·.2) l
theorem getB_mem {α : Type} {k : String} {a : α} {l : List (String × α)} (h : getB k l = some a) : (k, a) ∈ l := by
  obtain ⟨p, h1, h2, h3⟩ := findT_ok h
  exact of_decide_eq_true h2 ▸ h3 ▸ h1

/-- a class's plain attribute -/
noncomputable def Gam.isPlain (Γ : Gam) (C : Addr) (x : Str) : Bool := match getNat C Γ.plain with
  | some l => hasS x l
  | none => false
noncomputable def get2 (t : List (Addr × List (Str × Addr))) (C : Addr) (x : Str) : Option Addr := match getNat C t with
  | some l => getA x l
  | none => none
theorem get2_ok {t : List (Addr × List (Str × Addr))} {C : Addr} {x : Str} {f : Addr} (h : get2 t C x = some f) : ∃ l, (C, l) ∈ t ∧ (x, f) ∈ l := by
  unfold get2 at h
  cases e : getNat C t with
  | none => rw [e] at h; exact no' h
  | some l => rw [e] at h; exact ⟨l, getNat_mem e, getA_mem h⟩
theorem isPlain_ok {Γ : Gam} {C : Addr} {x : Str} (h : Γ.isPlain C x = true) : ∃ l, (C, l) ∈ Γ.plain ∧ x ∈ l := by
  unfold Gam.isPlain at h
  cases e : getNat C Γ.plain with
  | none => rw [e] at h; exact absurd h Bool.false_ne_true
  | some l => rw [e] at h; exact ⟨l, getNat_mem e, hasS_mem h⟩
noncomputable def sameNames : List Str → List Str → Bool
  | [], b => b.isEmpty
  | x :: r, b => (match b with
    | [] => false
    | y :: t => sEq x y && sameNames r t)
theorem sameNames_eq {a : List Str} : ∀ {b : List Str}, sameNames a b = true → a = b := by
  induction a with
  | nil => exact fun h => (List.isEmpty_iff.mp h).symm
  | cons x r ih =>
    intro b
    cases b with
    | nil => exact fun h => absurd h Bool.false_ne_true
    | cons y t => exact fun h => have h := Bool.and_eq_true_iff.mp h; congr (congrArg _ (sEq_iff.mp h.1)) (ih h.2)
noncomputable def fnFind (f n : Nat) (ks : List Str) (l : List FnI) : Option FnI := findT (fun i => Nat.beq f i.f && (Nat.beq n i.n && sameNames ks i.kws)) id l
theorem fnFind_ok {f n : Nat} {ks : List Str} {i : FnI} {l : List FnI} (h : fnFind f n ks l = some i) : i ∈ l ∧ i.f = f ∧ i.n = n ∧ i.kws = ks := by
  obtain ⟨p, h1, h2, h3⟩ := findT_ok h
  have h2 := Bool.and_eq_true_iff.mp h2
  have h4 := Bool.and_eq_true_iff.mp h2.2
  exact (show p = i from h3) ▸ ⟨h1, (beq_eq h2.1).symm, (beq_eq h4.1).symm, (sameNames_eq h4.2).symm⟩
noncomputable def fnKnown (f : Nat) (l : List FnI) : Option FnI := findT (fun i => Nat.beq f i.f) id l
theorem fnKnown_ok {f : Nat} {i : FnI} {l : List FnI} (h : fnKnown f l = some i) : i ∈ l ∧ i.f = f := by
  obtain ⟨p, h1, h2, h3⟩ := findT_ok h
  exact (show p = i from h3) ▸ ⟨h1, (beq_eq h2).symm⟩
noncomputable def isBi : V → Bool
  | .bi _ => true
  | _ => false
/-! kinds of expressions -/
noncomputable def notStar (e : Expr) : Bool := !(Nat.beq e.ctorIdx 22)
noncomputable def isName (e : Expr) : Bool := Nat.beq e.ctorIdx 23
noncomputable def allPlain : List Expr → Bool
  | [] => true
  | e :: r => notStar e && allPlain r
noncomputable def kwPlain : List Keyword → Bool
  | [] => true
  | k :: r => k.arg.isSome && kwPlain r
noncomputable def plainBase (e : Expr) : Bool := Nat.beq e.ctorIdx 23 || Nat.beq e.ctorIdx 20
noncomputable def noComp (e : Expr) : Bool := !(Nat.beq e.ctorIdx 8 || (Nat.beq e.ctorIdx 9 || Nat.beq e.ctorIdx 10))
noncomputable def plainIdx (e : Expr) : Bool := Nat.beq e.ctorIdx 23 || (Nat.beq e.ctorIdx 19 || Nat.beq e.ctorIdx 2)
noncomputable def noSet (e : Expr) : Bool := !(Nat.beq e.ctorIdx 7)
noncomputable def isConst (e : Expr) : Bool := Nat.beq e.ctorIdx 19
noncomputable def isConstO : Option Expr → Bool
  | none => true
  | some e => isConst e
noncomputable def one {α : Type} : List α → Option α
  | [] => none
  | a :: r => (match r with | [] => some a | _ :: _ => none)
theorem one_ok {α : Type} {l : List α} {a : α} (h : one l = some a) : l = [a] := by
  cases l with
  | nil => exact no' h
  | cons b r => cases r with
    | nil => exact congrArg (fun x => [x]) (Option.some.inj h)
    | cons _ _ => exact no' h
noncomputable def asName : Expr → Option (Str × Pos)
  | .Name x p => some (x, p)
  | _ => none
theorem asName_ok {e : Expr} {x : Str × Pos} (h : asName e = some x) : e = .Name x.1 x.2 := by
  cases e with
  | Name y p => exact Option.some.inj h ▸ rfl
  | _ => exact no' h
structure AttrE where
  o : Expr
  name : Str
  pos : Pos
noncomputable def asAttr : Expr → Option AttrE
  | .Attribute o x p => some ⟨o, x, p⟩
  | _ => none
theorem asAttr_ok {e : Expr} {x : AttrE} (h : asAttr e = some x) : e = .Attribute x.o x.name x.pos := by
  cases e with
  | Attribute o y p => exact Option.some.inj h ▸ rfl
  | _ => exact no' h
structure SliceE where
  lo : Option Expr
  hi : Option Expr
  pos : Pos
noncomputable def asSlice : Expr → Option SliceE
  | .Slice lo hi st p => (match st with | none => some ⟨lo, hi, p⟩ | some _ => none)
  | _ => none
theorem asSlice_ok {e : Expr} {x : SliceE} (h : asSlice e = some x) : e = .Slice x.lo x.hi none x.pos := by
  cases e with
  | Slice lo hi st p => cases st with
    | none => exact Option.some.inj h ▸ rfl
    | some _ => exact no' h
  | _ => exact no' h
noncomputable def asInt : Expr → Option (Int × Nat × Pos)
  | .Constant c k p => (match c with | .int i => some (i, k, p) | _ => none)
  | _ => none
theorem asInt_ok {e : Expr} {x : Int × Nat × Pos} (h : asInt e = some x) : e = .Constant (.int x.1) x.2.1 x.2.2 := by
  cases e with
  | Constant c k p => cases c with
    | int i => exact Option.some.inj h ▸ rfl
    | _ => exact no' h
  | _ => exact no' h
noncomputable def isEmptyList : Expr → Bool
  | .List l _ => l.isEmpty
  | _ => false
theorem isEmptyList_ok {e : Expr} (h : isEmptyList e = true) : ∃ p, e = .List [] p := by
  cases e with
  | List l p => exact ⟨p, congrArg (Expr.List · p) (List.isEmpty_iff.mp h)⟩
  | _ => exact absurd h Bool.false_ne_true
noncomputable def refOf : V → Option Nat
  | .ref j => some j
  | _ => none
theorem refOf_ok {v : V} {j : Nat} (h : refOf v = some j) : v = .ref j := by
  cases v with
  | ref i => exact congrArg V.ref (Option.some.inj h)
  | _ => exact no' h
noncomputable def cellIn : O → Option (Option V)
  | .cell v => some v
  | _ => none
theorem cellIn_ok {o : O} {v : Option V} (h : cellIn o = some v) : o = .cell v := by
  cases o with
  | cell u => exact congrArg O.cell (Option.some.inj h)
  | _ => exact no' h
noncomputable def numsIn : O → Option (List Int)
  | .nums v => some v
  | _ => none
theorem numsIn_ok {o : O} {v : List Int} (h : numsIn o = some v) : o = .nums v := by
  cases o with
  | nums u => exact congrArg O.nums (Option.some.inj h)
  | _ => exact no' h
noncomputable def instO : O → Option (Addr × List (Str × V))
  | .inst C as => some (C, as)
  | _ => none
theorem instO_ok {o : O} {v : Addr × List (Str × V)} (h : instO o = some v) : o = .inst v.1 v.2 := by
  cases o with
  | inst C as => exact Option.some.inj h ▸ rfl
  | _ => exact no' h
/-- an object by its label -/
noncomputable def atO {α : Type} (st : St) (v : V) (g : O → Option α) : Option (Nat × α) := match refOf v with
  | some j => (match getO j st.objs with
    | some o => (match g o with | some a => some (j, a) | none => none)
    | none => none)
  | none => none
theorem atO_ok {α : Type} {st : St} {v : V} {g : O → Option α} {x : Nat × α} (h : atO st v g = some x) : v = .ref x.1 ∧ ∃ o, getO x.1 st.objs = some o ∧ g o = some x.2 := by
  unfold atO at h
  cases e1 : refOf v with
  | none => rw [e1] at h; exact no' h
  | some j =>
    rw [e1] at h
    have h : (match getO j st.objs with | some o => (match g o with | some a => some (j, a) | none => none) | none => none) = some x := h
    cases e2 : getO j st.objs with
    | none => rw [e2] at h; exact no' h
    | some o =>
      rw [e2] at h
      have h : (match g o with | some a => some (j, a) | none => none) = some x := h
      cases e3 : g o with
      | none => rw [e3] at h; exact no' h
      | some a => rw [e3] at h; exact Option.some.inj h ▸ ⟨refOf_ok e1, o, e2, e3⟩
noncomputable def truthV (st : St) : V → Option Bool
  | .ref j => (match getO j st.objs with
    | some o => (match o with
      | .dq => some false
      | .list vs => some (!vs.isEmpty)
      | _ => none)
    | none => none)
  | .none => some false
  | .bool b => some b
  | .int i => some (i != 0)
  | .str x => some ((x.length : Int) != 0)
  | _ => none
noncomputable def andO : Option Prop → Prop → Prop
  | none, k => k
  | some c, k => c ∧ k
noncomputable def holdsO : Option Prop → Prop
  | none => True
  | some c => c
theorem andO_ok {c : Option Prop} {k : Prop} (h : andO c k) : holdsO c ∧ k := by
  cases c with
  | none => exact ⟨trivial, h⟩
  | some c => exact h
/-- a condition: decided at once where it is of written values, else asked -/
noncomputable def whenC (b : Bool) (c : Prop) [Decidable c] (k : Prop) : Prop := bb b (ef (decide c) k) (c ∧ k)
theorem whenC_ok {b : Bool} {c : Prop} [Decidable c] {k : Prop} (h : whenC b c k) : c ∧ k := by
  cases b with
  | false => exact h
  | true => exact ⟨of_decide_eq_true (ef_ok h).1, (ef_ok h).2⟩
/-- all of one kind -/
noncomputable def allOf {α : Type} (g : V → Option α) : List V → Option (List α)
  | [] => some []
  | v :: r => (match g v with
    | some a => (match allOf g r with | some l => some (a :: l) | none => none)
    | none => none)
theorem allOf_ok {α : Type} {g : V → Option α} {mk : α → V} (hg : ∀ {v a}, g v = some a → v = mk a) {vs : List V} : ∀ {ns : List α}, allOf g vs = some ns → vs = ns.map mk := by
  induction vs with
  | nil => exact fun h => Option.some.inj h ▸ rfl
  | cons v r ih =>
    intro ns
    show (match g v with | some a => (match allOf g r with | some l => some (a :: l) | none => none) | none => none) = some ns → _
    cases e : g v with
    | none => exact fun h => no' h
    | some a =>
      show (match allOf g r with | some l => some (a :: l) | none => none) = some ns → _
      cases e2 : allOf g r with
      | none => exact fun h => no' h
      | some l => exact fun h => Option.some.inj h ▸ congr (congrArg _ (hg e)) (ih e2)
/-- a frozen list of written items -/
noncomputable def packV (vs : List V) : Option V := match allOf asI vs with
  | some ns => some (.tri ns)
  | none => (match allOf asS vs with
    | some ss => some (.trs ss)
    | none => (match vs.all closedV with | true => some (.tr vs) | false => none))
theorem closed_ints (ns : List Int) : (ns.map V.int).all closedV = true := by
  induction ns with
  | nil => rfl
  | cons n ns ih => exact ih
theorem closed_strs (ns : List Str) : (ns.map V.str).all closedV = true := by
  induction ns with
  | nil => rfl
  | cons n ns ih => exact ih
theorem packV_items {vs : List V} {v : V} (h : packV vs = some v) : itemsV v = some vs ∧ vs.all closedV = true := by
  unfold packV at h
  cases e : allOf asI vs with
  | some ns =>
    rw [e] at h
    have e := allOf_ok asI_ok e
    subst e
    exact Option.some.inj h ▸ ⟨rfl, closed_ints ns⟩
  | none =>
    rw [e] at h
    cases e2 : allOf asS vs with
    | some ns =>
      rw [e2] at h
      have e2 := allOf_ok asS_ok e2
      subst e2
      exact Option.some.inj h ▸ ⟨rfl, closed_strs ns⟩
    | none =>
      rw [e2] at h
      have h : (match vs.all closedV with | true => some (.tr vs) | false => none) = some v := h
      cases e3 : vs.all closedV with
      | true => rw [e3] at h; exact Option.some.inj h ▸ ⟨rfl, rfl⟩
      | false => rw [e3] at h; exact no' h
/-- a part of a list, by bounds that aren't negative -/
noncomputable def cutL {α : Type} (lo hi : Option Int) (l : List α) : List α := ((match hi with | none => l | some h => l.take h.toNat).drop (match lo with | none => 0 | some a => a.toNat))
noncomputable def cutV (lo hi : Option Int) : V → Option V
  | .tr vs => some (.tr (cutL lo hi vs))
  | .tri ns => some (.tri (cutL lo hi ns))
  | .trs ss => some (.trs (cutL lo hi ss))
  | _ => none
/-- what a list of the table shows -/
noncomputable def seenO : O → Option V
  | .nums ns => some (.tri ns)
  | .list vs => (match vs.all closedV with | true => some (.tr vs) | false => none)
  | _ => none
/-- the list that a value shows: a frozen one, or one of the table as it stands -/
noncomputable def seenV (st : St) (v : V) : Option V := match refOf v with
  | some j => (match getO j st.objs with
    | some o => seenO o
    | none => none)
  | none => some v
/-- an item of a list -/
noncomputable def idxL {α : Type} (b : Bool) (i : Int) (d : α) (l : List α) (k : α → Prop) : Prop := whenC b (0 ≤ i ∧ i < (l.length : Int)) (k (getN d i.toNat l))
noncomputable def idxO (b : Bool) (i : Int) (k : V → Prop) : O → Prop
  | .nums ns => idxL b i 0 ns (fun n => k (.int n))
  | .list vs => idxL b i .none vs k
  | _ => False
noncomputable def stIdx (b : Bool) (st : St) (ov : V) (i : Int) (k : V → Prop) : Prop := match ov with
  | .tr vs => idxL b i .none vs k
  | .tri ns => idxL b i 0 ns (fun n => k (.int n))
  | .trs ss => idxL b i ("" : Str) ss (fun n => k (.str n))
  | .ref j => sf (getO j st.objs) (idxO b i k)
  | _ => False
noncomputable def partV : V → Option (Option Int)
  | .none => some none
  | .int i => some (some i)
  | _ => none
noncomputable def nonneg : Option Int → Prop
  | none => True
  | some i => 0 ≤ i
noncomputable def nonnegDec : (o : Option Int) → Decidable (nonneg o)
  | none => isTrue trivial
  | some i => Int.decLe 0 i
noncomputable def stCut (b : Bool) (st : St) (ov a c : V) (k : V → Prop) : Prop := sf (partV a) fun lo => sf (partV c) fun hi => match asS ov with
  | some x => sf lo fun i => sf hi fun j => k (.str (Txt.slice x (some i) (some j)))
  | none => sf (seenV st ov) fun l => sf (cutV lo hi l) fun v => @whenC b (nonneg lo ∧ nonneg hi) (@instDecidableAnd _ _ (nonnegDec lo) (nonnegDec hi)) (k v)
/-- a value, and what must hold of the sizes -/
noncomputable def binI : Operator → Int → Int → Option (Option Prop × V)
  | .Add, a, b => some (none, .int (a + b))
  | .Sub, a, b => some (none, .int (a - b))
  | .Mult, a, b => some (some (IntMulOk a b), .int (a * b))
  | .FloorDiv, a, b => (match decide (b = 0) || decide (1000 < b.natAbs) with | true => none | false => some (none, .int (a.fdiv b)))
  | .Mod, a, b => (match decide (b = 0) with | true => none | false => some (none, .int (a.fmod b)))
  | .Div, a, b => (match decide (b = 0) with | true => none | false => some (some (Float64.isInf (Float64.ofFrac (decide (a < 0) != decide (b < 0)) a.natAbs b.natAbs) = false), .flt (Float64.ofFrac (decide (a < 0) != decide (b < 0)) a.natAbs b.natAbs)))
  | _, _, _ => none
noncomputable def isAdd : Operator → Bool
  | .Add => true
  | _ => false
theorem isAdd_ok {op : Operator} (h : isAdd op = true) : op = .Add := by
  cases op with
  | Add => rfl
  | _ => exact absurd h Bool.false_ne_true
noncomputable def isMult : Operator → Bool
  | .Mult => true
  | _ => false
theorem isMult_ok {op : Operator} (h : isMult op = true) : op = .Mult := by
  cases op with
  | Mult => rfl
  | _ => exact absurd h Bool.false_ne_true
noncomputable def binS (op : Operator) (x y : Str) : Option (Option Prop × V) := match isAdd op with
  | true => some (some (x.length + y.length ≤ sizeLine), .str (x ++ y))
  | false => none
noncomputable def binV (op : Operator) (a b : V) : Option (Option Prop × V) := match both asI (binI op) a b with
  | some r => some r
  | none => both asS (binS op) a b
noncomputable def triOf : V → Option (List Int)
  | .tri l => some l
  | _ => none
theorem triOf_ok {v : V} {l : List Int} (e : triOf v = some l) : v = .tri l := by
  cases v with
  | tri j => exact congrArg V.tri (Option.some.inj e)
  | _ => exact no' e
noncomputable def trsOf : V → Option (List Str)
  | .trs l => some l
  | _ => none
theorem trsOf_ok {v : V} {l : List Str} (e : trsOf v = some l) : v = .trs l := by
  cases v with
  | trs j => exact congrArg V.trs (Option.some.inj e)
  | _ => exact no' e
noncomputable def trOf : V → Option (List V)
  | .tr l => some l
  | _ => none
theorem trOf_ok {v : V} {l : List V} (e : trOf v = some l) : v = .tr l := by
  cases v with
  | tr j => exact congrArg V.tr (Option.some.inj e)
  | _ => exact no' e
/-- list + list -/
noncomputable def addL (a b : V) : Option (Nat × V) := match both triOf (fun x y => some (x.length + y.length, V.tri (x ++ y))) a b with
  | some r => some r
  | none => (match both trsOf (fun x y => some (x.length + y.length, V.trs (x ++ y))) a b with
    | some r => some r
    | none => both trOf (fun x y => some (x.length + y.length, V.tr (x ++ y))) a b)
noncomputable def stBin0 (st : St) (op : Operator) (a b : V) (k : V → St → Prop) : Prop := sf (binV op a b) fun x => andO x.1 (k x.2 st)
noncomputable def stRep (st : St) (ns : List Int) (n : Int) (k : V → St → Prop) : Prop := ((0 ≤ n ∧ n < 2 ^ 63) ∧ ns.length * n.toNat ≤ sizeLine) ∧ k (.ref st.next) ⟨(st.next, .nums (List.replicate n.toNat ns).flatten) :: st.objs, st.next + 1⟩
noncomputable def stMul (st : St) (a b : V) (k : V → St → Prop) : Prop := match triOf a with
  | some ns => sf (asI b) fun n => stRep st ns n k
  | none => stBin0 st .Mult a b k
noncomputable def stAdd (st : St) (a b : V) (k : V → St → Prop) : Prop := match addL a b with
  | some x => x.1 ≤ sizeLine ∧ k x.2 st
  | none => stBin0 st .Add a b k
noncomputable def stBin (st : St) (op : Operator) (a b : V) (k : V → St → Prop) : Prop := match isMult op with
  | true => stMul st a b k
  | false => (match isAdd op with
    | true => stAdd st a b k
    | false => stBin0 st op a b k)
noncomputable def numsOf (st : St) : V → Option (List Int)
  | .tri ns => some ns
  | .ref j => (match getO j st.objs with
    | some o => numsIn o
    | none => none)
  | _ => none
/-- values that equal themselves -/
noncomputable def fineV : Nat → V → Prop
  | _, .flt b => (Float64.cmp b b == some Ordering.eq) = true
  | _, .int _ => True
  | _, .bool _ => True
  | _, .str _ => True
  | _, .none => True
  | _ + 1, .tri _ => True
  | _ + 1, .trs _ => True
  | n + 1, .tr vs => ∀ v ∈ vs, fineV n v
  | _, _ => False
noncomputable def eqL (a b : V) (k : Bool → Prop) : Prop := match a with
  | .tri x => sf (triOf b) fun y => k (decide (x = y))
  | .tr x => sf (trOf b) fun y => (x = y ∧ fineV 5 (.tr x)) ∧ k true
  | .trs x => sf (trsOf b) fun y => x = y ∧ k true
  | _ => False
noncomputable def inL (st : St) (a b : V) (k : Bool → Prop) : Prop := sf (asI a) fun i => sf (numsOf st b) fun ns => k (decide (i ∈ ns))
noncomputable def stCmp (st : St) (op : CmpOp) (a b : V) (k : Bool → Prop) : Prop := match cmpV op a b with
  | some c => k c
  | none => (match op with
    | .In => inL st a b k
    | .Eq => eqL a b k
    | _ => False)

inductive MR where
  | user (f : Addr)
  | pure (n : String)
  | app (j : Nat)
  | rem (j : Nat)

structure RunF where
  E : List (Str × NameKind) → Path → Loc → St → Expr → (Path → V → St → Prop) → Prop
  T : List (Str × NameKind) → Path → Loc → St → Expr → (Path → Bool → St → Prop) → Prop
  U : Path → St → Addr → List V → List Str → List V → (Path → V → St → Prop) → Prop
  S : List (Str × NameKind) → Path → Loc → St → Stmt → (Path → Fl → Loc → St → Prop) → Prop
  B : List (Str × NameKind) → Path → Loc → St → List Stmt → (Path → Fl → Loc → St → Prop) → Prop

section
variable (Γ : Gam) (r : RunF)
noncomputable def stA (ks : List (Str × NameKind)) (loc : Loc) : Path → St → List Expr → (Path → List V → St → Prop) → Prop
  | p, st, [], k => k p [] st
  | p, st, e :: es, k => ef (notStar e) (r.E ks p loc st e (fun p v st => stA ks loc p st es (fun p vs st => k p (v :: vs) st)))
noncomputable def stK (ks : List (Str × NameKind)) (loc : Loc) : Path → St → List Keyword → (Path → List Str → List V → St → Prop) → Prop
  | p, st, [], k => k p [] [] st
  | p, st, e :: es, k => sf e.arg fun x => r.E ks p loc st e.value (fun p v st => stK ks loc p st es (fun p xs vs st => k p (x :: xs) (v :: vs) st))
noncomputable def stAttr (p : Path) (st : St) (ov : V) (name : Str) (k : Path → V → St → Prop) : Prop := sf (atO st ov instO) fun x => match Γ.isPlain x.2.1 name with
  | true => sf (getA name x.2.2) fun v => nf (isBi v) (k p v st)
  | false => sf (get2 Γ.prop x.2.1 name) fun f => r.U p st f [ov] [] [] (fun p v st => nf (isBi v) (k p v st))
noncomputable def stSet (st : St) (ov : V) (name : Str) (v : V) (k : St → Prop) : Prop := sf (atO st ov instO) fun x => ef (Γ.isPlain x.2.1 name && Nat.ble x.2.2.length 900) (k { st with objs := putO x.1 (.inst x.2.1 (putA name v x.2.2)) st.objs })
noncomputable def makeForm : Bool → List V → List Str → Bool
  | false, _, _ => true
  | true, vs, xs => (one vs).isSome && xs.isEmpty
noncomputable def apB (t : List (String × (List V → Option V))) (n : String) (vs : List V) : Option V := match getB n t with
  | some g => g vs
  | none => none
theorem apB_ok {t : List (String × (List V → Option V))} {n : String} {vs : List V} {v : V} (h : apB t n vs = some v) : ∃ g, (n, g) ∈ t ∧ g vs = some v := by
  unfold apB at h
  cases e : getB n t with
  | none => rw [e] at h; exact no' h
  | some g => rw [e] at h; exact ⟨g, getB_mem e, h⟩
noncomputable def stBi (t : List (String × (List V → Option V))) (tS : List (String × (List V → St → (V → St → Prop) → Prop))) (n : String) (p : Path) (st : St) (vs : List V) (k : Path → V → St → Prop) : Prop := match apB t n vs with
  | some v => k p v st
  | none => sf (getB n tS) fun sp => sp vs st (fun v st => k p v st)
noncomputable def isNone : V → Bool
  | .none => true
  | _ => false
theorem isNone_ok {v : V} (h : isNone v = true) : v = .none := by
  cases v with
  | none => rfl
  | _ => exact absurd h Bool.false_ne_true
noncomputable def stNew (p : Path) (st : St) (f : Addr) (c : Addr × Bool) (vs : List V) (xs : List Str) (kvs : List V) (k : Path → V → St → Prop) : Prop :=
  ef (makeForm c.2 vs xs) (r.U p { st with objs := (st.next, .inst f []) :: st.objs, next := st.next + 1 } c.1 (.ref st.next :: vs) xs kvs (fun p v st' => ef (isNone v) (k p (.ref st.next) st')))
noncomputable def isFnA (f : Addr) : Bool := (fnKnown f Γ.fns).isSome || ((getNat f Γ.spec).isSome || (getNat f Γ.specK).isSome)
inductive Callee where
  | fn (a : Addr)
  | cls (a : Addr) (c : Addr × Bool)
  | bi (n : String)
  | ty (n : String)
  | dq
noncomputable def calleeOf : V → Option Callee
  | .raw f => (match isFnA Γ f with
    | true => some (.fn f)
    | false => (match getNat f Γ.cls with | some c => some (.cls f c) | none => none))
  | .bi n => some (.bi n)
  | .ty n => (match decide (n = "collections.deque") with | true => some .dq | false => some (.ty n))
  | _ => none
noncomputable def stCall (p : Path) (st : St) (c : Callee) (vs : List V) (xs : List Str) (kvs : List V) (k : Path → V → St → Prop) : Prop := match c with
  | .fn f => r.U p st f vs xs kvs k
  | .cls f c => stNew r p st f c vs xs kvs k
  | .bi n => ef xs.isEmpty (stBi Γ.bi Γ.biS n p st vs k)
  | .ty n => ef xs.isEmpty (stBi Γ.ty Γ.tyS n p st vs k)
  | .dq => ef xs.isEmpty (ef vs.isEmpty (k p (.ref st.next) { st with objs := (st.next, .dq) :: st.objs, next := st.next + 1 }))
noncomputable def methL (name : Str) (j : Nat) (b : Bool) : Option MR := match sEq name "append" with
  | true => some (.app j)
  | false => (match b && sEq name "remove" with | true => some (.rem j) | false => none)
noncomputable def methO (name : Str) (j : Nat) : O → Option MR
  | .inst C as => (match getA name as with
    | some _ => none
    | none => (get2 Γ.meth C name).map MR.user)
  | .list _ => methL name j false
  | .nums _ => methL name j true
  | _ => none
noncomputable def methR (st : St) (ov : V) (name : Str) : Option MR := match ov with
  | .ref j => (match getO j st.objs with
    | some o => methO Γ name j o
    | none => none)
  | .str _ => (getA name Γ.sm).map MR.pure
  | _ => none
noncomputable def stApp (p : Path) (st : St) (j : Nat) (v : V) (k : Path → V → St → Prop) : O → Prop
  | .list us => us.length + 1 ≤ sizeLine ∧ k p .none { st with objs := putO j (.list (us ++ [v])) st.objs }
  | .nums ns => sf (asI v) fun i => ns.length + 1 ≤ sizeLine ∧ k p .none { st with objs := putO j (.nums (ns ++ [i])) st.objs }
  | _ => False
noncomputable def stMeth (p : Path) (st : St) (m : MR) (ov : V) (vs : List V) (xs : List Str) (kvs : List V) (k : Path → V → St → Prop) : Prop := match m with
  | .user f => r.U p st f (ov :: vs) xs kvs k
  | .pure n => ef xs.isEmpty (stBi Γ.bi Γ.biS n p st (ov :: vs) k)
  | .app j => ef xs.isEmpty (sf (one vs) fun v => sf (getO j st.objs) (stApp p st j v k))
  | .rem j => ef xs.isEmpty (sf (one vs) fun v => sf (asI v) fun i => sf (getO j st.objs) fun o => sf (numsIn o) fun ns => i ∈ ns ∧ k p .none { st with objs := putO j (.nums (ns.erase i)) st.objs })
noncomputable def cmpFind (l c : Nat) (t : List CmpE) : Option CmpE := findT (fun x => Nat.beq l x.line && Nat.beq c x.col) id t
theorem cmpFind_mem {l c : Nat} {x : CmpE} {t : List CmpE} (h : cmpFind l c t = some x) : x ∈ t := by
  obtain ⟨y, h1, h2, h3⟩ := findT_ok h
  exact (show y = x from h3) ▸ h1
noncomputable def stPart (ks : List (Str × NameKind)) (loc : Loc) (p : Path) (st : St) : Option Expr → (Path → V → St → Prop) → Prop
  | none, k => k p .none st
  | some e, k => r.E ks p loc st e k
noncomputable def stConst (p : Path) (st : St) (k : Path → V → St → Prop) : Const → Prop
  | .none => k p .none st
  | .bool b => k p (.bool b) st
  | .int i => k p (.int i) st
  | .str x => ef (Nat.ble x.cps.size 16777216) (k p (.str x) st)
  | _ => False
noncomputable def cellVal (o : O) : Option V := match cellIn o with
  | some v => v
  | none => none
noncomputable def stCell (loc : Loc) (p : Path) (st : St) (x : Str) (k : Path → V → St → Prop) : Prop := sf (getA x loc) fun v => sf (atO st v cellVal) fun y => k p y.2 st
noncomputable def stName (p : Path) (loc : Loc) (st : St) (x : Str) (k : Path → V → St → Prop) : NameKind → Prop
  | .local => sf (getA x loc) fun v => k p v st
  | .globalImplicit => sf (getA x Γ.glob) fun v => k p v st
  | .cell => stCell loc p st x k
  | .free => nf (sEq x "__classdict__") (stCell loc p st x k)
  | _ => False
noncomputable def isUSub : UnaryOp → Bool
  | .USub => true
  | _ => false
theorem isUSub_ok {op : UnaryOp} (h : isUSub op = true) : op = .USub := by
  cases op with
  | USub => rfl
  | _ => exact absurd h Bool.false_ne_true
noncomputable def isNot : UnaryOp → Bool
  | .Not => true
  | _ => false
theorem isNot_ok {op : UnaryOp} (h : isNot op = true) : op = .Not := by
  cases op with
  | Not => rfl
  | _ => exact absurd h Bool.false_ne_true
noncomputable def stSub (ks : List (Str × NameKind)) (p : Path) (loc : Loc) (st : St) (o i : Expr) (k : Path → V → St → Prop) : Prop := match asSlice i with
  | some x => r.E ks p loc st o (fun p ov st => stPart r ks loc p st x.lo (fun p a st => stPart r ks loc p st x.hi (fun p b st => stCut (isConstO x.lo && isConstO x.hi) st ov a b (fun v => k p v st))))
  | none => ef (plainIdx i) (r.E ks p loc st o (fun p ov st => r.E ks p loc st i (fun p iv st => sf (asI iv) fun n => stIdx (isConst i) st ov n (fun v => k p v st))))
noncomputable def stList (ks : List (Str × NameKind)) (p : Path) (loc : Loc) (st : St) (elts : List Expr) (k : Path → V → St → Prop) : Prop := match elts.isEmpty with
  | true => k p (.ref st.next) ⟨(st.next, .list []) :: st.objs, st.next + 1⟩
  | false => stA r ks loc p st elts (fun p vs st => sf (packV vs) fun v => ef (Nat.ble vs.length 100) (k p v st))
noncomputable def stCl (ks : List (Str × NameKind)) (p : Path) (loc : Loc) (st : St) (fn : Expr) (args : List Expr) (kws : List Keyword) (pos : Pos) (k : Path → V → St → Prop) : Prop := ef (allPlain args && kwPlain kws) (match asAttr fn with
  | some a => ef (plainBase a.o && (Nat.beq a.pos.endLine pos.line && Nat.ble (args.length + kws.length + 1) 29)) (r.E ks p loc st a.o (fun p ov st => sf (methR Γ st ov a.name) fun m =>
      stA r ks loc p st args (fun p vs st => stK r ks loc p st kws (fun p xs kvs st => stMeth Γ r p st m ov vs xs kvs k))))
  | none => ef (isName fn) (r.E ks p loc st fn (fun p fv st => sf (calleeOf Γ fv) fun c => stA r ks loc p st args (fun p vs st => stK r ks loc p st kws (fun p xs kvs st => stCall Γ r p st c vs xs kvs k)))))
noncomputable def stE (ks : List (Str × NameKind)) (p : Path) (loc : Loc) (st : St) (e : Expr) (k : Path → V → St → Prop) : Prop := match e with
  | .Constant c _ _ => stConst p st k c
  | .Name x _ => nf (sEq x "__debug__") (sf (getA x ks) (stName Γ p loc st x k))
  | .Attribute o name _ => ef (plainBase o) (r.E ks p loc st o (fun p ov st => stAttr Γ r p st ov name k))
  | .BinOp l op x _ => r.E ks p loc st l (fun p a st => r.E ks p loc st x (fun p b st => stBin st op a b (fun v st => k p v st)))
  | .UnaryOp op x _ => ef (isUSub op) (r.E ks p loc st x (fun p a st => sf (asI a) fun i => k p (.int (-i)) st))
  | .IfExp t b o _ => r.T ks p loc st t (fun p c st => bb c (r.E ks p loc st b k) (r.E ks p loc st o k))
  | .Compare l ops xs _ => sf (one ops) fun op => sf (one xs) fun x => ef (noSet x) (r.E ks p loc st l (fun p a st => r.E ks p loc st x (fun p b st => stCmp st op a b (fun c => k p (.bool c) st))))
  | .Subscript o i _ => stSub r ks p loc st o i k
  | .List elts _ => stList r ks p loc st elts k
  | .ListComp a b c pos => sf (cmpFind pos.line pos.col Γ.cmp) fun x => (Expr.ListComp a b c pos = x.e ∧ ks = x.ks) ∧ x.sp loc st (fun v st => k p v st)
  | .Call fn args kws pos => stCl Γ r ks p loc st fn args kws pos k
  | _ => False
noncomputable def stAnd (ks : List (Str × NameKind)) (loc : Loc) : Path → St → List Expr → (Path → Bool → St → Prop) → Prop
  | p, st, [], k => k p true st
  | p, st, e :: es, k => r.T ks p loc st e (fun p c st => bb c (stAnd ks loc p st es k) (k p false st))
noncomputable def stOr (ks : List (Str × NameKind)) (loc : Loc) : Path → St → List Expr → (Path → Bool → St → Prop) → Prop
  | p, st, [], k => k p false st
  | p, st, e :: es, k => r.T ks p loc st e (fun p c st => bb c (k p true st) (stOr ks loc p st es k))
/-- a written text -/
noncomputable def asText : Expr → Option (Str × Nat × Pos)
  | .Constant c k p => (match c with | .str x => (match Nat.ble x.cps.size 16777216 with | true => some (x, k, p) | false => none) | _ => none)
  | _ => none
theorem asText_ok {e : Expr} {x : Str × Nat × Pos} (h : asText e = some x) : e = .Constant (.str x.1) x.2.1 x.2.2 := by
  cases e with
  | Constant c k p => cases c with
    | str y =>
      have h : (match Nat.ble y.cps.size 16777216 with | true => some (y, k, p) | false => none) = some x := h
      cases e : Nat.ble y.cps.size 16777216 with
      | true => rw [e] at h; exact Option.some.inj h ▸ rfl
      | false => rw [e] at h; exact no' h
    | _ => exact no' h
  | _ => exact no' h
/-- signs of a tuple of written texts -/
noncomputable def litStrs : List Expr → Option (List Str)
  | [] => some []
  | e :: r => (match asText e with
    | some x => (match litStrs r with | some l => some (x.1 :: l) | none => none)
    | none => none)
noncomputable def tupElts : Expr → Option (List Expr)
  | .Tuple l _ _ => some l
  | _ => none
/-- in (a tuple of texts) -/
noncomputable def inTup (op : CmpOp) (x : Expr) : Option (List Str) := match op with
  | .In => (match tupElts x with
    | some l => (match litStrs l with
      | some ys => (match Nat.ble ys.length 100 with | true => some ys | false => none)
      | none => none)
    | none => none)
  | _ => none
noncomputable def stPlain (ks : List (Str × NameKind)) (p : Path) (loc : Loc) (st : St) (e : Expr) (k : Path → Bool → St → Prop) : Prop := r.E ks p loc st e (fun p v st => sf (truthV st v) fun c => dec p c (fun p c => k p c st))
noncomputable def stTCmp (ks : List (Str × NameKind)) (p : Path) (loc : Loc) (st : St) (l : Expr) (op : CmpOp) (x : Expr) (k : Path → Bool → St → Prop) : Prop := match inTup op x with
  | some ys => r.E ks p loc st l (fun p a st => sf (asS a) fun x => dec p (hasS x ys) (fun p c => k p c st))
  | none => ef (noSet x) (r.E ks p loc st l (fun p a st => r.E ks p loc st x (fun p b st => stCmp st op a b (fun c => dec p c (fun p c => k p c st)))))
noncomputable def stT (ks : List (Str × NameKind)) (p : Path) (loc : Loc) (st : St) (e : Expr) (k : Path → Bool → St → Prop) : Prop := match e with
  | .UnaryOp op x _ => ef (isNot op) (r.T ks p loc st x (fun p c st => bb c (k p false st) (k p true st)))
  | .BoolOp op xs _ => (match op with
    | .And => stAnd r ks loc p st xs k
    | .Or => stOr r ks loc p st xs k)
  | .Compare l ops xs _ => sf (one ops) fun op => sf (one xs) fun x => stTCmp r ks p loc st l op x k
  | .Name .. => stPlain r ks p loc st e k
  | .Attribute .. => stPlain r ks p loc st e k
  | .Call .. => stPlain r ks p loc st e k
  | _ => False
noncomputable def accL {β : Type} (f : Nat → β) : Nat → List Str → List (Str × β) → List (Str × β)
  | _, [], acc => acc
  | n, x :: r, acc => accL f (n + 1) r ((x, f n) :: acc)
noncomputable def cellLoc (n : Nat) (cs : List Str) (acc : Loc) : Loc := accL V.ref n cs acc
noncomputable def cellTab : Nat → List Str → Loc → List (Nat × O) → List (Nat × O)
  | _, [], _, acc => acc
  | n, x :: r, vals, acc => cellTab (n + 1) r vals ((n, .cell (getA x vals)) :: acc)
/-- the names and the state with which a def's body starts -/
noncomputable def fnLoc (i : FnI) (n : Nat) (vs kvs : List V) : Loc := match i.cell with
  | [] => i.bind.map fun b => (b.1, b.2.v vs kvs)
  | cs => cellLoc n cs ((i.bind.filter fun b => !(hasS b.1 cs)).map fun b => (b.1, b.2.v vs kvs))
noncomputable def fnSt (i : FnI) (st : St) (vs kvs : List V) : St := match i.cell with
  | [] => st
  | cs => ⟨cellTab st.next cs (i.bind.map fun b => (b.1, b.2.v vs kvs)) st.objs, st.next + cs.length⟩
/-- what a body's end gives back -/
noncomputable def retK (k : V → Prop) : Fl → Prop
  | .ret v => k v
  | .next => k .none
  | _ => False
noncomputable def stU (p : Path) (st : St) (f : Addr) (vs : List V) (xs : List Str) (kvs : List V) (k : Path → V → St → Prop) : Prop := match getNat f Γ.spec with
  | some sp => ef xs.isEmpty (sp vs st (fun v st => k p v st))
  | none => match getNat f Γ.specK with
  | some x => ef (sameNames xs x.1) (x.2 vs kvs st (fun v st => k p v st))
  | none => sf (fnFind f vs.length xs Γ.fns) fun i => r.B i.sc.names p (fnLoc i st.next vs kvs) (fnSt i st vs kvs) i.body (fun p fl _ st => retK (k p · st) fl)
/-- a loop over the items -/
noncomputable def forG (ks : List (Str × NameKind)) (x : Str) (body : List Stmt) : List V → Path → Loc → St → (Path → Fl → Loc → St → Prop) → Prop
  | [], p, loc, st, k => k p .next loc st
  | v :: vs, p, loc, st, k => r.B ks p (putA x v loc) st body (fun p fl loc st => match fl with
    | .next => forG ks x body vs p loc st k
    | .cont => forG ks x body vs p loc st k
    | .brk => k p .next loc st
    | .ret u => k p (.ret u) loc st)
noncomputable def stAsg (ks : List (Str × NameKind)) (p : Path) (loc : Loc) (st : St) (x : Str) (e : Expr) (k : Path → Fl → Loc → St → Prop) : NameKind → Prop
  | .local => (match isEmptyList e && hasS x Γ.intv with
    | true => k p .next (putA x (.ref st.next) loc) ⟨(st.next, .nums []) :: st.objs, st.next + 1⟩
    | false => r.E ks p loc st e (fun p v st => k p .next (putA x v loc) st))
  | .cell => r.E ks p loc st e (fun p v st => sf (getA x loc) fun u => sf (atO st u cellIn) fun y => k p .next loc { st with objs := putO y.1 (.cell (some v)) st.objs })
  | _ => False
noncomputable def stAsg0 (ks : List (Str × NameKind)) (p : Path) (loc : Loc) (st : St) (t e : Expr) (k : Path → Fl → Loc → St → Prop) : Prop := match asName t with
  | some x => sf (getA x.1 ks) (stAsg Γ r ks p loc st x.1 e k)
  | none => sf (asAttr t) fun a => r.E ks p loc st e (fun p v st => r.E ks p loc st a.o (fun p ov st => stSet Γ st ov a.name v (fun st => k p .next loc st)))
/-- x[i] op= d -/
structure AugS where
  o : Expr
  i : Expr
  pos : Pos
noncomputable def asSub : Expr → Option AugS
  | .Subscript o i p => some ⟨o, i, p⟩
  | _ => none
theorem asSub_ok {e : Expr} {x : AugS} (h : asSub e = some x) : e = .Subscript x.o x.i x.pos := by
  cases e with
  | Subscript o i p => exact Option.some.inj h ▸ rfl
  | _ => exact no' h
/-- += and -= of an int -/
noncomputable def augI (a d : Int) : Operator → Option Int
  | .Add => some (a + d)
  | .Sub => some (a - d)
  | _ => none
noncomputable def stAugI (p : Path) (loc : Loc) (st : St) (op : Operator) (ov iv : V) (d : Int) (k : Path → Fl → Loc → St → Prop) : Prop := sf (atO st ov numsIn) fun y => sf (asI iv) fun n =>
  (0 ≤ n ∧ n < (y.2.length : Int)) ∧ sf (augI (getN 0 n.toNat y.2) d op) fun v => k p .next loc { st with objs := putO y.1 (.nums (y.2.set n.toNat v)) st.objs }
noncomputable def stAugA (ks : List (Str × NameKind)) (p : Path) (loc : Loc) (st : St) (a : AttrE) (op : Operator) (e : Expr) (k : Path → Fl → Loc → St → Prop) : Prop := ef (isAdd op) (r.E ks p loc st a.o (fun p ov st => stAttr Γ r p st ov a.name (fun p old st => r.E ks p loc st e (fun p v st =>
  sf (binV .Add old v) fun x => andO x.1 (stSet Γ st ov a.name x.2 (fun st => k p .next loc st))))))
noncomputable def isLocal : NameKind → Bool
  | .local => true
  | _ => false
theorem isLocal_ok {kd : NameKind} (h : isLocal kd = true) : kd = .local := by
  cases kd with
  | «local» => rfl
  | _ => exact absurd h Bool.false_ne_true
noncomputable def stAugN (ks : List (Str × NameKind)) (p : Path) (loc : Loc) (st : St) (x : Str) (op : Operator) (e : Expr) (k : Path → Fl → Loc → St → Prop) : Prop := ef (isAdd op) (sf (getA x ks) fun kd => ef (isLocal kd) (sf (getA x loc) fun u => r.E ks p loc st e (fun p v st => sf (atO st u numsIn) fun y => sf (triOf v) fun ms =>
  y.2.length + ms.length ≤ sizeLine ∧ k p .next loc { st with objs := putO y.1 (.nums (y.2 ++ ms)) st.objs })))
noncomputable def stAug (ks : List (Str × NameKind)) (p : Path) (loc : Loc) (st : St) (t : Expr) (op : Operator) (e : Expr) (k : Path → Fl → Loc → St → Prop) : Prop := match asAttr t with
  | some a => stAugA Γ r ks p loc st a op e k
  | none => match asName t with
  | some x => stAugN r ks p loc st x.1 op e k
  | none => sf (asSub t) fun a => sf (asInt e) fun d => ef (plainIdx a.i && isName a.o) (r.E ks p loc st a.o (fun p ov st => r.E ks p loc st a.i (fun p iv st => stAugI p loc st op ov iv d.1 k)))
noncomputable def stS (ks : List (Str × NameKind)) (p : Path) (loc : Loc) (st : St) (x : Stmt) (k : Path → Fl → Loc → St → Prop) : Prop := match x with
  | .Expr e _ => ef (noComp e) (r.E ks p loc st e (fun p _ st => k p .next loc st))
  | .Pass _ => k p .next loc st
  | .Break _ => k p .brk loc st
  | .Continue _ => k p .cont loc st
  | .Return o _ => (match o with
    | some e => r.E ks p loc st e (fun p v st => k p (.ret v) loc st)
    | none => k p (.ret .none) loc st)
  | .Assign ts e _ => sf (one ts) fun t => ef (noComp e) (stAsg0 Γ r ks p loc st t e k)
  | .AugAssign t op e _ => stAug Γ r ks p loc st t op e k
  | .For t it b els _ => sf (asName t) fun x => sf (getA x.1 ks) fun kd => ef (els.isEmpty && (isLocal kd && noSet it)) (r.E ks p loc st it (fun p v st => sf (itemsV v) fun vs => forG r ks x.1 b vs p loc st k))
  | .If t b o _ => r.T ks p loc st t (fun p c st => bb c (r.B ks p loc st b k) (r.B ks p loc st o k))
  | _ => False
noncomputable def stB (ks : List (Str × NameKind)) (p : Path) (loc : Loc) (st : St) (b : List Stmt) (k : Path → Fl → Loc → St → Prop) : Prop := match b with
  | [] => k p .next loc st
  | x :: rest => r.S ks p loc st x (fun p fl loc st => match fl with
    | .next => r.B ks p loc st rest k
    | fl => k p fl loc st)
end
noncomputable def run (Γ : Gam) : Nat → RunF
  | 0 => ⟨fun _ _ _ _ _ _ => False, fun _ _ _ _ _ _ => False, fun _ _ _ _ _ _ _ => False, fun _ _ _ _ _ _ => False, fun _ _ _ _ _ _ => False⟩
  | n + 1 => ⟨stE Γ (run Γ n), stT (run Γ n), stU Γ (run Γ n), stS Γ (run Γ n), stB (run Γ n)⟩
end Mine
end
section
open PySem PySem.W PyProof.Rows PySem.Calls
set_option Elab.async false
set_option maxRecDepth 100000
namespace Mine
/-! deque() and its truth -/
theorem dq_mro : mroOf (.type "collections.deque") = pure [.type "collections.deque", .type "object"] := by rw [mroOf_type]; kernel_rfl
theorem dq_look : typeLookup (.type "collections.deque") "__new__" = pure (some (.builtin "collections.deque.__new__")) := by rw [typeLookup_type, builtinLookup_eq_fast]; kernel_rfl
theorem dq_sub : isSubtype (.type "collections.deque") (.type "collections.deque") = pure true := by rw [isSubtype_type]; kernel_rfl
theorem dq_init : Slot "collections.deque" "__init__" "collections.deque.__init__" :=
  .of (owner := "collections.deque") (n := "__init__") (by rw [typeLookup_type, builtinLookup_eq_fast]; kernel_rfl) (by decide +kernel) (by decide +kernel) (by decide +kernel)
    (by first | exact .inl (by decide +kernel) | exact .inr (by decide +kernel)) dq_sub
theorem dq_len : Slot "collections.deque" "__len__" "collections.deque.__len__" :=
  .of (owner := "collections.deque") (n := "__len__") (by rw [typeLookup_type, builtinLookup_eq_fast]; kernel_rfl) (by decide +kernel) (by decide +kernel) (by decide +kernel)
    (by first | exact .inl (by decide +kernel) | exact .inr (by decide +kernel)) dq_sub
theorem dq_called : TypeCalled "collections.deque" "collections.deque.__new__" "collections.deque.__init__" :=
  ⟨by decide +kernel, by decide +kernel, ⟨_, _, dq_mro⟩, madeBy_type dq_mro dq_look (by decide +kernel), by decide +kernel, dq_sub, dq_init⟩
theorem dq_tc : checkTypeCall "collections.deque" ⟨[], []⟩ = pure () := by kernel_rfl
theorem dq_nc : checkBuiltinCall "collections.deque.__new__" ⟨[.type "collections.deque"], []⟩ = pure () := by kernel_rfl
theorem dq_en : entryFor table "collections.deque.__new__" = some Builtin.«collections.deque.__new__» := entryFor_of_tree (by kernel_rfl)
theorem dq_ei : entryFor table "collections.deque.__init__" = some Builtin.«collections.deque.__init__» := entryFor_of_tree (by kernel_rfl)
theorem dq_el : entryFor table "collections.deque.__len__" = some Builtin.«collections.deque.__len__» := entryFor_of_tree (by kernel_rfl)
theorem dq_al (a : Value) : argsOk "collections.deque.__len__" ⟨[a], []⟩ := by unfold argsOk; kernel_rfl
theorem dq_ai (a : Value) : argsOk "collections.deque.__init__" ⟨[a], []⟩ := by unfold argsOk; kernel_rfl
theorem dq_noBool : typeLookup (.type "collections.deque") "__bool__" = pure none := by rw [typeLookup_type, builtinLookup_eq_fast]; kernel_rfl
theorem dq_type : isType (.type "collections.deque") = pure true := by kernel_rfl
theorem dq_new : Meets (Builtin.«collections.deque.__new__» ⟨[.type "collections.deque"], []⟩) (fun _ R s => R (.ok (.ret (.ref s.heap.objs.size))) { s with heap := s.heap.push dqObj }) := by
  refine Meets.of_wp fun prog w A R s hs => ?_
  unfold Builtin.«collections.deque.__new__»
  refine wpAny_bind (m := Builtin.Deque.newArgs Builtin.Deque.ty _) ?_
  unfold Builtin.Deque.newArgs
  refine wpAny_bind (wpAny_of_eq dq_type (wpAny_pure ?_))
  refine wpAny_bind (m := Builtin.Deque.new _ _ _) ?_
  unfold Builtin.Deque.new
  rw [if_neg (by decide)]
  refine wpAny_bind (wpAny_pure ?_)
  refine wpAny_newObj_type ?_
  exact wpAny_pure ⟨_, rfl, hs⟩
theorem dq_itree (a : Addr) : Builtin.«collections.deque.__init__» ⟨[.ref a], []⟩ = (do setField (.ref a) 0 .none; Builtin.Deque.clear (.ref a); ret .none) := by kernel_rfl
theorem dq_in {a : Addr} : Meets (Builtin.«collections.deque.__init__» ⟨[.ref a], []⟩) (fun _ R s => s.heap.get? a = some dqObj ∧ ∀ h', (∀ b, h'.get? b = s.heap.get? b) → R (.ok (.ret .none)) { s with heap := h' }) := by
  refine Meets.of_wp fun prog w A R s hs => ?_
  obtain ⟨ho, hs⟩ := hs
  rw [dq_itree]
  have hk : ∀ b, (s.heap.update a (Obj.mapFields (·.setIfInBounds 0 .none))).get? b = s.heap.get? b := fun b => by
    by_cases hb : b = a
    · subst hb
      rw [ho]
      exact Heap.get?_update_self _ ho rfl
    · exact Heap.get?_update_ne _ _ _ _ hb
  refine wpAny_bind (wpAny_setField ho rfl (by decide) ?_)
  refine wpAny_bind (m := Builtin.Deque.clear (.ref a)) ?_
  unfold Builtin.Deque.clear Builtin.Deque.items fieldsOf
  refine wpAny_bind (wpAny_bind (wpAny_bind (wpAny_load ((hk a).trans ho) (wpAny_pure (wpAny_pure ?_)))))
  rw [if_neg (by decide)]
  exact wpAny_pure (wpAny_pure ⟨_, rfl, hs _ hk⟩)
theorem dq_make {prog : Program} {w : World} {A : Around} {E : Value → Shared → Prop} {s : Shared} {Q : Value → Shared → Prop}
    (h : ∀ h', (∀ b o, s.heap.get? b = some o → h'.get? b = some o) → h'.get? s.heap.objs.size = some dqObj → Q (.ref s.heap.objs.size) { s with heap := h' }) :
    wpAny (model prog w) A (call (.type "collections.deque") []) Q E s := by
  refine callType_meets dq_called dq_tc dq_nc dq_en dq_ei dq_new (Q₁ := fun obj s₁ => obj = .ref s.heap.objs.size ∧ s₁ = { s with heap := s.heap.push dqObj }) ⟨rfl, rfl⟩ ?_
  rintro obj s₁ ⟨rfl, rfl⟩
  have ho : (s.heap.push dqObj).get? s.heap.objs.size = some dqObj := Heap.get?_push_size _ rfl
  refine ⟨⟨_, ho, rfl⟩, dq_ai _, _, dq_in, ho, fun h' hk => ⟨rfl, h h' (fun b o e => ?_) ((hk _).trans ho)⟩⟩
  rw [hk]; exact Heap.get?_push_of_some _ e
theorem dq_false {prog : Program} {w : World} {A : Around} {E : Value → Shared → Prop} {s : Shared} {a : Addr} {Q : Bool → Shared → Prop} (ho : s.heap.get? a = some dqObj)
    (h : Q false { s with toks := s.toks + 1 + 1 }) : wpAny (model prog w) A (truthy (.ref a)) Q E s := by
  have hT : s.TypeIs (.ref a) "collections.deque" := ⟨_, ho, rfl⟩
  have body : ∀ {Q : Value → Shared → Prop}, Q (.int 0 (s.toks + 1)) { s with toks := s.toks + 1 + 1 } → wpAny (model prog w) A.in1 (Builtin.«len» ⟨[.ref a], []⟩) (fun fin s' => ∃ r, fin = .done (.ret r) ∧ Q r s') E s := by
    intro Q h
    unfold Builtin.«len»
    refine wpAny_bind (m := oneArg "len" _) (wpAny_pure ?_)
    refine wpAny_bind (m := callSpecial? (.ref a) (Str.ofString "__len__")) (wpAny_callSpecial?_slot (name := Str.ofString "__len__") hT dq_len
      (wpAny_call_entry dq_len hT dq_el ?_ (dq_al _)))
    show wpAny _ _ (do retInt (← Builtin.Deque.size (.ref a))) _ _ s
    unfold Builtin.Deque.size fieldsOf
    refine wpAny_bind (wpAny_bind (wpAny_bind (wpAny_load ho (wpAny_pure (wpAny_pure ?_)))))
    refine (wpAny_bind (wpAny_mkInt (wpAny_pure ⟨_, rfl, ?_⟩)))
    refine wpAny_bind (wpAny_holding (wpAny_pure ?_))
    refine wpAny_bind (wpAny_letGo ?_)
    exact wpAny_bind (wpAny_mkInt (wpAny_pure ⟨_, rfl, h⟩))
  have key : wpAny (model prog w) A (runValue (.builtin "len" ⟨[.ref a], []⟩)) (fun r s' => r = .int 0 (s.toks + 1) ∧ Q false s') E s := by
    refine wpAny_runValue (codeAny_builtin entry_len ?_)
    rw [Around.under_plainId plain_len _]
    exact wpAny_mono (body (Q := fun r s' => r = .int 0 (s.toks + 1) ∧ Q false s') ⟨rfl, h⟩)
      (fun fin s' h' => by obtain ⟨r, rfl, hq⟩ := h'; exact hq) fun _ _ e => e
  unfold truthy
  refine wpAny_bind (wpAny_callSpecial?_none (name := Str.ofString "__bool__") hT dq_noBool ?_)
  refine wpAny_bind (wpAny_specialOf (name := Str.ofString "__len__") hT dq_len.lookup ?_)
  exact wpAny_bind (wpAny_mono key (fun r s' h' => by obtain ⟨rfl, hq⟩ := h'; exact wpAny_pure hq) fun _ _ e => e)
end Mine
end
section
open PySem PySem.W PyProof.Rows PySem.Calls
set_option Elab.async false
set_option maxRecDepth 100000
set_option genSizeOf false
set_option genInjectivity false
namespace Mine

/-! what the interpreter's tables must satisfy -/
noncomputable def VR0 (v : V) (val : Value) : Prop := ∀ ρ, VR ρ v val
structure PlainAttr (K : Frag) (C : Addr) (x : Str) : Prop where
  get : plainGet K C x = true
  dict : hasDictIn K C = true
  find : ∃ attr, findIn K (.ref C) x = some attr ∧ noGet K attr = true
  setter : findIn K (.ref C) "__setattr__" = some (some (.builtin "object.__setattr__"))
  over : plainOver K C = true
  taker : takerIn K C x = some none
structure MethAttr (K : Frag) (C : Addr) (x : Str) (f : Addr) : Prop where
  get : plainGet K C x = true
  find : findIn K (.ref C) x = some (some (.ref f))
  fn : isFn K (.ref f) = true
  keep : keepIn K (.ref f) = true
structure PropAttr (K : Frag) (C : Addr) (x : Str) (f : Addr) : Prop where
  get : plainGet K C x = true
  dict : hasDictIn K C = true
  find : ∃ p rest, findIn K (.ref C) x = some (some (.ref p)) ∧ specialIn K (.ref p) "__get__" = some (some (.builtin "property.__get__")) ∧ takesIn K (.ref p) = some true ∧ recIn K p "property" = some (.ref f :: rest)
noncomputable def BiOk (c : Value) (g : List V → Option V) : Prop := ∀ (vs : List V) (v : V), g vs = some v → ∀ (ρ : Lab) (vals : List Value), VRs ρ vs vals →
  ∀ (prog : Program) (w : World) (A : Around) (E : Value → Shared → Prop) (Q : Value → Shared → Prop) (s : Shared), A.handled = none → A.units + 10 < cLine →
    (∀ (val : Value) (h' : Heap) (tk : Nat), (∀ b o, s.heap.get? b = some o → h'.get? b = some o) → VR ρ v val → Q val { s with heap := h', toks := tk }) → wpAny (model prog w) A (call c vals) Q E s
noncomputable def cellNames : List (Str × NameKind) → List Str
  | [] => []
  | (x, .cell) :: r => x :: cellNames r
  | _ :: r => cellNames r
structure FnOk (K : Frag) (i : FnI) : Prop where
  keep : keepIn K (.ref i.f) = true
  look : ∃ oc od osl name params dV kV doc pm an ct, K.lookup i.f = some ⟨oc, od, .func (fnOf name i.q params i.body i.sc dV kV doc pm an i.cdv ct), osl⟩ ∧
    ∀ (s : Shared) (vals kvals : List Value), K.In s.heap → vals.length = i.n → kvals.length = i.kws.length →
      BindsTo s (fnOf name i.q params i.body i.sc dV kV doc pm an i.cdv ct) ⟨vals, i.kws.zip kvals⟩ (i.bind.map fun b => (b.1, b.2.val vals kvals))
  code : codeIn K i.cdv i.q = true
  locs : ∀ b ∈ i.bind, i.sc.names.lookup b.1 = some .local ∨ (i.sc.names.lookup b.1 = some .cell ∧ b.1 ∈ i.cell)
  nodup : (i.bind.map (·.1)).Nodup
  co : i.sc.isCoroutine = false
  gen : i.sc.isGenerator = false
  kind : i.sc.kind = .function
  cell : i.cell = cellNames i.sc.names
  celnd : i.cell.Nodup
  clash : ∀ {x : Str}, i.sc.names.lookup x = some .local → x ∈ cellNames i.sc.names → False
  free : ∀ x ∈ i.sc.names, x.2 ≠ .free
  consts : ∀ b ∈ i.bind, match b.2 with | .const v val => VR0 v val | _ => True
/-- a class call: a new object with nothing in it, then its __init__ -/
noncomputable def MakesOk (K : Frag) (C fI : Addr) (one : Bool) : Prop := keepIn K (.ref C) = true ∧
  ∀ (mg mb : Str → Option Value) (f : FD), f.Ok K mg mb → f.A.depth + 5 < recursionLimit → f.A.units + 20 < cLine →
  ∃ A'' : Around, A''.frames = f.A.frames ∧ A''.handled = f.A.handled ∧ A''.depth ≤ f.A.depth + 1 ∧ A''.units ≤ f.A.units + 9 ∧
  ∀ (prog : Program) (w : World) (E : Value → Shared → Prop) (Q : Value → Shared → Prop) (s : Shared) (m : Str → Option Value) (news : List (Addr × Obj)) (vals : List Value) (kw : List (Str × Value)), (one = true → ∃ v, vals = [v] ∧ kw = []) →
    Fr f.h₀ f.L s.heap m → News f.h₀ f.L s.heap news →
    (∀ x dx h' tk, s.toks ≤ tk → Fr f.h₀ f.L h' m → News f.h₀ f.L h' ((x, instObj C dx) :: (dx, dictOf [] 0) :: news) → (∀ p ∈ news, p.1 < dx) → dx < x →
      codeAny (model prog w) A'' (.call (.ref fI) ⟨.ref x :: vals, kw⟩) (fun r s' => match r with | .ok (.ret v) => v = .none ∧ Q (.ref x) s' | .ok _ => False | .error e => E e s') { s with heap := h', toks := tk }) →
    wpAny (model prog w) f.A (call (.ref C) vals kw) Q E s
/-- a callee that the call's own rule takes -/
noncomputable def KeepOk (K : Frag) (a : Addr) : Prop := ∀ (M : Model) (h : Heap), K.In h → ∃ k, (k = Keeper.frame ∨ k = Keeper.machine ∨ k = Keeper.boundFrame) ∧ Looks M h (keeperOf (.ref a)) k
theorem KeepOk.of {K : Frag} {a : Addr} (h : keepIn K (.ref a) = true) : KeepOk K a := fun _ h' X => keeps_K h h' X
/-- a def by its contract -/
noncomputable def SpecOk (prog : Program) (w : World) (K : Frag) (X : Nat) (a : Addr) (sp : List V → St → (V → St → Prop) → Prop) : Prop := KeepOk K a ∧
  ∀ (mg mb : Str → Option Value) (os₀ : Glo) (f : FD), f.Ok K mg mb → ∀ A' : Around, A'.frames = f.A.frames → A'.handled = none → A'.depth < X → A'.units < 10 * X →
  ∀ (vs : List V) (st : St) (k : V → St → Prop), sp vs st k → ∀ (loc : Loc) (ρ : Lab) (s : Shared) (vals : List Value) (Rr : Result → Shared → Prop), R w os₀ f.h₀ f.L f.outs loc st ρ s → VRs ρ vs vals →
    (∀ v st' ρ' val s', k v st' → LabLe ρ ρ' → R w os₀ f.h₀ f.L f.outs loc st' ρ' s' → VR ρ' v val → Rr (.ok (.ret val)) s') → codeAny (model prog w) A' (.call (.ref a) ⟨vals, []⟩) Rr s
/-- a def by its contract, called with names -/
noncomputable def SpecKOk (prog : Program) (w : World) (K : Frag) (X : Nat) (a : Addr) (ys : List Str) (sp : List V → List V → St → (V → St → Prop) → Prop) : Prop := KeepOk K a ∧
  ∀ (mg mb : Str → Option Value) (os₀ : Glo) (f : FD), f.Ok K mg mb → ∀ A' : Around, A'.frames = f.A.frames → A'.handled = none → A'.depth < X → A'.units < 10 * X →
  ∀ (vs kvs : List V) (st : St) (k : V → St → Prop), sp vs kvs st k → ∀ (loc : Loc) (ρ : Lab) (s : Shared) (vals kvals : List Value) (Rr : Result → Shared → Prop), R w os₀ f.h₀ f.L f.outs loc st ρ s → VRs ρ vs vals → VRs ρ kvs kvals → ys.length = kvs.length →
    (∀ v st' ρ' val s', k v st' → LabLe ρ ρ' → R w os₀ f.h₀ f.L f.outs loc st' ρ' s' → VR ρ' v val → Rr (.ok (.ret val)) s') → codeAny (model prog w) A' (.call (.ref a) ⟨vals, ys.zip kvals⟩) Rr s
/-- a builtin by its contract -/
noncomputable def BiSpec (prog : Program) (w : World) (K : Frag) (X : Nat) (c : Value) (sp : List V → St → (V → St → Prop) → Prop) : Prop :=
  ∀ (mg mb : Str → Option Value) (os₀ : Glo) (f : FD), f.Ok K mg mb → f.A.depth < X → f.A.units < 10 * X →
  ∀ (vs : List V) (st : St) (k : V → St → Prop), sp vs st k → ∀ (loc : Loc) (ρ : Lab) (s : Shared) (vals : List Value) (Q : Value → Shared → Prop) (E : Value → Shared → Prop), R w os₀ f.h₀ f.L f.outs loc st ρ s → VRs ρ vs vals →
    (∀ v st' ρ' val s', k v st' → LabLe ρ ρ' → R w os₀ f.h₀ f.L f.outs loc st' ρ' s' → VR ρ' v val → Q val s') → wpAny (model prog w) f.A (call c vals) Q E s
/-- a comprehension by its contract -/
noncomputable def CmpOk (prog : Program) (w : World) (K : Frag) (X : Nat) (x : CmpE) : Prop :=
  ∀ (mg mb : Str → Option Value) (os₀ : Glo) (f : FD), f.Ok K mg mb → f.cs.names = x.ks → f.A.depth < X → f.A.units < 10 * X →
  ∀ (loc : Loc) (st : St) (k : V → St → Prop), x.sp loc st k → ∀ (ρ : Lab) (s : Shared) (Q : Value → Shared → Prop) (E : Value → Shared → Prop), R w os₀ f.h₀ f.L f.outs loc st ρ s →
    (∀ v st' ρ' val s', k v st' → LabLe ρ ρ' → R w os₀ f.h₀ f.L f.outs loc st' ρ' s' → VR ρ' v val → Q val s') → wpAny (model prog w) f.A (eval x.e f.env) Q E s
structure Gam.Ok (prog : Program) (w : World) (K : Frag) (X : Nat) (Γ : Gam) : Prop where
  spec : ∀ a sp, (a, sp) ∈ Γ.spec → SpecOk prog w K X a sp
  specK : ∀ a ys sp, (a, ys, sp) ∈ Γ.specK → SpecKOk prog w K X a ys sp := by intro _ _ _ h; cases h
  biS : ∀ n sp, (n, sp) ∈ Γ.biS → BiSpec prog w K X (.builtin n) sp := by intro _ _ h; cases h
  tyS : ∀ n sp, (n, sp) ∈ Γ.tyS → BiSpec prog w K X (.type n) sp := by intro _ _ h; cases h
  cmp : ∀ x ∈ Γ.cmp, CmpOk prog w K X x := by intro _ h; cases h
  glob : ∀ x v, (x, v) ∈ Γ.glob → ∃ val, VR0 v val ∧ (nsIn K mainGlobals x = some (some val) ∨ (nsIn K mainGlobals x = some none ∧ bootBuiltins x = some val ∧ x ≠ "__name__"))
  fns : ∀ i ∈ Γ.fns, FnOk K i
  plain : ∀ C l, (C, l) ∈ Γ.plain → ∀ x ∈ l, PlainAttr K C x
  meth : ∀ C l, (C, l) ∈ Γ.meth → ∀ x f, (x, f) ∈ l → MethAttr K C x f
  prop : ∀ C l, (C, l) ∈ Γ.prop → ∀ x f, (x, f) ∈ l → PropAttr K C x f
  bi : ∀ n g, (n, g) ∈ Γ.bi → BiOk (.builtin n) g
  ty : ∀ n g, (n, g) ∈ Γ.ty → BiOk (.type n) g
  cls : ∀ C fI one, (C, fI, one) ∈ Γ.cls → MakesOk K C fI one
  sm : ∀ x n, (x, n) ∈ Γ.sm → ∀ (M : Model) (A : Around) (E : Value → Shared → Prop) (Q : Value × List Value → Shared → Prop) (s : Shared) (y : Str) (t : Tok) (pl : Sem Bool), Q (.builtin n, [.str y t]) s → wpAny M A (getMethod (.str y t) x pl) Q E s

theorem upd_of_nodup {d : Addr} {o o' : Obj} {post : List (Addr × Obj)} : ∀ {pre : List (Addr × Obj)}, ((pre ++ (d, o) :: post).map (·.1)).Nodup → Upd d o o' (pre ++ (d, o) :: post) (pre ++ (d, o') :: post)
  | [], h => .head fun p hp e => (List.nodup_cons.mp h).1 (List.mem_map.mpr ⟨p, hp, e⟩)
  | q :: pre, h => .tail (fun e => (List.nodup_cons.mp h).1 (List.mem_map.mpr ⟨(d, o), List.mem_append_right _ (.head _), e.symm⟩)) (upd_of_nodup (List.nodup_cons.mp h).2)
/-- one cell's object -/
theorem OAt.cell1 {P : Params} {ρ : Lab} {v : Option V} {a : Addr} {l : List (Addr × Obj)} (h : OAt P ρ (.cell v) a l) : ∃ o y, l = [(a, o)] ∧ o.data = .cell y := by
  have g := h.inv
  cases v with
  | none => obtain ⟨o, e, d⟩ := g; exact ⟨o, _, e, d⟩
  | some v => obtain ⟨o, x, e, -, d⟩ := g; exact ⟨o, _, e, d⟩
/-- one more in the ledger -/
theorem News.grow1 {h₀ h h' : Heap} {L : Addr} {m : Str → Option Value} {ns : List (Addr × Obj)} {a : Addr} {o : Obj} (F : Fr h₀ L h m) (N : News h₀ L h ns) (hk : ∀ b o, h.get? b = some o → h'.get? b = some o) (hn : h.get? a = none) (ho : h'.get? a = some o) :
    News h₀ L h' ((a, o) :: ns) := by
  intro p hp
  rcases List.mem_cons.mp hp with e | hp
  · subst e
    refine ⟨ho, fun e => ?_, ?_⟩
    · obtain ⟨oL, _, _, hL, _⟩ := F.ns
      rw [show a = L from e, hL] at hn
      exact no' hn.symm
    · cases hq : h₀.get? a with
      | none => rfl
      | some o' => rw [F.keep _ _ hq] at hn; exact no' hn.symm
  · exact ⟨hk _ _ (N p hp).1, (N p hp).2⟩
theorem News.notIn {h₀ h : Heap} {L : Addr} {ns : List (Addr × Obj)} {a : Addr} (N : News h₀ L h ns) (hn : h.get? a = none) : a ∉ ns.map (·.1) := fun hx => by
  obtain ⟨p, hp, e⟩ := List.mem_map.mp hx
  rw [← e, (N p hp).1] at hn
  exact no' hn.symm
/-- a new label -/
noncomputable def Lab.put (ρ : Lab) (n : Nat) (a : Addr) : Lab := ⟨fun j => if j = n then some a else ρ.of j, ρ.im⟩
theorem Lab.put_self (ρ : Lab) (n : Nat) (a : Addr) : (ρ.put n a).of n = some a := if_pos rfl
theorem Lab.put_ne {ρ : Lab} {n j : Nat} {a : Addr} (h : j ≠ n) : (ρ.put n a).of j = ρ.of j := if_neg h
theorem Lab.put_le {ρ : Lab} {n : Nat} {a : Addr} (h : ρ.of n = none) : LabLe ρ (ρ.put n a) := ⟨fun j b e => by
  have hj : j ≠ n := fun q => by rw [q, h] at e; exact no' e
  rw [Lab.put_ne hj]; exact e, fun _ h => h⟩
theorem Lab.put_free {ρ : Lab} {n : Nat} {a : Addr} (h : ∀ j, n ≤ j → ρ.of j = none) (j : Nat) (hj : n + 1 ≤ j) : (ρ.put n a).of j = none := (Lab.put_ne (Nat.ne_of_gt hj)).trans (h j (Nat.le_of_succ_le hj))

section
variable {prog : Program} {w : World} {K : Frag} {os₀ : Glo} {h₀ : Heap} {L : Addr} {outs : Fx} {loc : Loc} {st : St} {ρ : Lab} {s : Shared} {A : Around} {E : Value → Shared → Prop}

theorem R.store (r : R w os₀ h₀ L outs loc st ρ s) {x : Str} {v : V} {val : Value} (hv : VR ρ v val) {env : Env} {Q : Unit → Shared → Prop}
    (hL : env.locals = L) (hk : env.scope.kind = .function) (hx : env.kindOf x = some .local) (hcl : outs.cl.lookup x = none) (q : ∀ s', R w os₀ h₀ L outs (putA x v loc) st ρ s' → Q () s') :
    wpAny (model prog w) A (storeName env x val) Q E s := by
  obtain ⟨m, F, hm⟩ := r.fr
  obtain ⟨ns, N, T, nd⟩ := r.led
  subst hL
  refine wpAny_storeName_local hx F.ns (fun h' hn hs => q _ ⟨⟨_, F.set hn hs, fun y u e => ?_⟩, ⟨ns, N.set hs, T, nd⟩, r.free, r.os, r.gens, Nat.lt_succ_of_lt r.tok⟩) (by rw [hk]; rfl)
  rw [getA_putA] at e
  cases hxy : sEq y x with
  | true =>
    rw [hxy] at e
    rw [sEq_iff.mp hxy]
    exact .of hcl ⟨val, if_pos rfl, Option.some.inj e ▸ hv⟩
  | false =>
    rw [hxy] at e
    exact (hm y u e).map (fun _ h => h) fun u' h1 h2 => ⟨u', (if_neg (sEq_false hxy)).trans h1, h2⟩
/-- one of the ledger turns -/
theorem News.turn {h h' : Heap} {S : Addr} {o : Obj} {B C : List (Addr × Obj)} (N : News h₀ L h (B ++ (S, o) :: C)) (nd : ((B ++ (S, o) :: C).map (·.1)).Nodup) (hk : ∀ b x, b ≠ S → h.get? b = some x → h'.get? b = some x) :
    (News h₀ L h' (B ++ C) ∧ ((B ++ C).map (·.1)).Nodup) ∧ ∀ o', h'.get? S = some o' → News h₀ L h' (B ++ (S, o') :: C) ∧ ((B ++ (S, o') :: C).map (·.1)).Nodup := by
  have e := fun o => List.perm_middle (a := ((S, o) : Addr × Obj)) (l₁ := B) (l₂ := C)
  have nd2 := List.nodup_cons.mp (((e o).map (·.1)).nodup_iff.mp nd)
  have N' : News h₀ L h' (B ++ C) := fun p hp => by
    have hp' := N p ((e o).mem_iff.mpr (.tail _ hp))
    exact ⟨hk _ _ (fun q => nd2.1 (show S ∈ _ from q ▸ List.mem_map_of_mem (f := (·.1)) hp)) hp'.1, hp'.2⟩
  refine ⟨⟨N', nd2.2⟩, fun o' ho => ⟨fun p hp => ?_, ((e o').map (·.1)).nodup_iff.mpr (List.nodup_cons.mpr nd2)⟩⟩
  rcases List.mem_cons.mp ((e o').mem_iff.mp hp) with q | hp
  · subst q; exact ⟨ho, (N (S, o) (List.mem_append_right _ (.head _))).2⟩
  · exact N' p hp
/-- the frame, when an object apart from it turns -/
theorem Fr.turn {h h' : Heap} {m : Str → Option Value} {S : Addr} (F : Fr h₀ L h m) (h1 : S ≠ L) (h2 : h₀.get? S = none) (hk : ∀ b x, b ≠ S → h.get? b = some x → h'.get? b = some x) : Fr h₀ L h' m := by
  obtain ⟨oL, es, ep, hL, hd⟩ := F.ns
  exact ⟨⟨oL, es, ep, hk _ _ h1.symm hL, hd⟩, fun b x hb => hk b x (fun q => by rw [q, h2] at hb; exact no' hb) (F.keep b x hb), F.above⟩
/-- an object of the table turns -/
theorem R.turn1 (r : R w os₀ h₀ L outs loc st ρ s) {j : Nat} {a : Addr} {x' : O} {o o' : Obj} {h' : Heap} {tk : Nat} {pre post : List (Addr × Obj)} {ns : List (Addr × Obj)} (hns : ns = pre ++ ([(a, o)] ++ post))
    (N : News h₀ L s.heap ns) (nd : (ns.map (·.1)).Nodup) (hput : Tab w.params ρ (RestIs os₀ outs ρ.im) (putO j x' st.objs) (pre ++ ([(a, o')] ++ post)))
    (ho : h'.get? a = some o') (hk : ∀ b u, b ≠ a → s.heap.get? b = some u → h'.get? b = some u) (htk : s.toks ≤ tk := by omega) : R w os₀ h₀ L outs loc { st with objs := putO j x' st.objs } ρ { s with heap := h', toks := tk } := by
  obtain ⟨m, F, hm⟩ := r.fr
  subst hns
  have hS := N (a, o) (List.mem_append_right _ (.head _))
  have X := (News.turn (B := pre) N nd hk).2 o' ho
  exact ⟨⟨m, Fr.turn F hS.2.1 hS.2.2 hk, hm⟩, ⟨_, X.1, hput, X.2⟩, r.free, r.os, r.gens, Nat.lt_of_lt_of_le r.tok htk⟩
/-- a label's cell, found by a name -/
structure CellAt (h₀ : Heap) (L : Addr) (w : World) (ρ : Lab) (h : Heap) (os₀ : Glo) (outs : Fx) (st : St) (j : Nat) (c : Addr) (v : Option V) (l pre post ns : List (Addr × Obj)) : Prop where
  N : News h₀ L h ns
  nd : (ns.map (·.1)).Nodup
  t : TAt w.params ρ (RestIs os₀ outs ρ.im) j st.objs ns (.cell v) c l pre post
theorem R.cell0 (r : R w os₀ h₀ L outs loc st ρ s) {x : Str} {v : Option V} {j : Nat} {c : Addr} (hcl : outs.cl.lookup x = some c) (hl : getA x loc = some (.ref j)) (ho : getO j st.objs = some (.cell v)) : ∃ l pre post ns, CellAt h₀ L w ρ s.heap os₀ outs st j c v l pre post ns := by
  obtain ⟨m, F, hm⟩ := r.fr
  obtain ⟨ns, N, T, nd⟩ := r.led
  obtain ⟨a, l, pre, post, t⟩ := T.at_ ho
  rcases (hm x _ hl).cell hcl with ⟨k, e, hρ⟩ | e
  · rw [← V.ref.inj e, t.of] at hρ
    exact ⟨l, pre, post, ns, N, nd, Option.some.inj hρ ▸ t⟩
  · exact nomatch e
/-- a cell is filled -/
theorem R.storeCell (r : R w os₀ h₀ L outs loc st ρ s) {x : Str} {v : V} {val : Value} (hv : VR ρ v val) {env : Env} {j : Nat} {v₀ : Option V} {Q : Unit → Shared → Prop}
    (hk : env.scope.kind = .function) (hx : env.kindOf x = some .cell) {c : Addr} (hcl : outs.cl.lookup x = some c) (hce : env.cells = outs.cl) (hl : getA x loc = some (.ref j)) (ho : getO j st.objs = some (.cell v₀))
    (q : ∀ s', R w os₀ h₀ L outs loc { st with objs := putO j (.cell (some v)) st.objs } ρ s' → Q () s') : wpAny (model prog w) A (storeName env x val) Q E s := by
  obtain ⟨l, pre, post, ns, X⟩ := r.cell0 hcl hl ho
  obtain ⟨o, y, e, hd⟩ := X.t.at_.cell1
  have hns := X.t.e
  rw [e] at hns
  refine wpAny_storeName_cell hk hx (by rw [hce]; exact hcl) ⟨o, (X.N (c, o) (hns ▸ List.mem_append_right _ (.head _))).1, hd⟩ fun h' hv' hs => ?_
  obtain ⟨o', ho', hd'⟩ := hv'
  exact q _ (r.turn1 (tk := s.toks) hns X.N X.nd (X.t.put _ _ (.cell hv hd')) ho' (fun b u hb e => (hs.2 b hb).trans e) (Nat.le_refl _))

/-- an object of a class, as it lies -/
structure InstR (w : World) (h₀ : Heap) (L : Addr) (os₀ : Glo) (outs : Fx) (ρ : Lab) (h : Heap) (st : St) (j : Nat) (C : Addr) (as : List (Str × V)) (ov : Value) (ns pre post : List (Addr × Obj)) (a dx : Addr) (n : Nat) (es : List DictEntry) : Prop where
  e : ov = .ref a
  N : News h₀ L h ns
  nd : (ns.map (·.1)).Nodup
  t : TAt w.params ρ (RestIs os₀ outs ρ.im) j st.objs ns (.inst C as) a [(a, instObj C dx), (dx, dictOf es n)] pre post
  at_ : InstAt h a (instObj C dx) C (some (dictOf es n))
  ar : AR ρ w.params as es
theorem R.inst (r : R w os₀ h₀ L outs loc st ρ s) {j : Nat} {C : Addr} {as : List (Str × V)} {ov : Value} (ho : getO j st.objs = some (.inst C as)) (hov : VR ρ (.ref j) ov) : ∃ ns pre post a dx n es, InstR w h₀ L os₀ outs ρ s.heap st j C as ov ns pre post a dx n es := by
  obtain ⟨ns, N, T, nd⟩ := r.led
  obtain ⟨a, l, pre, post, t⟩ := T.at_ ho
  obtain ⟨b, e, h2⟩ := hov.inv
  rw [t.of] at h2
  have h2 := Option.some.inj h2
  subst h2
  obtain ⟨dx, n, es, el, ar⟩ := t.at_.inv
  subst el
  have m : ∀ p, p ∈ [(a, instObj C dx), (dx, dictOf es n)] → p ∈ ns := fun p hp => t.e ▸ List.mem_append_right _ (List.mem_append_left _ hp)
  exact ⟨ns, pre, post, a, dx, n, es, e, N, nd, t, InstAt.of_news N (m _ (.head _)) (m _ (.tail _ (.head _))), ar⟩
theorem handed_of {v : V} {val : Value} (h : VR ρ v val) (hb : isBi v = false) : handedIn val = true := by
  cases h <;> first | rfl | exact nomatch hb
theorem R.getPlain (r : R w os₀ h₀ L outs loc st ρ s) (X : K.In h₀) {j : Nat} {C : Addr} {as : List (Str × V)} {name : Str} {v : V} {ov : Value} {Q : Value → Shared → Prop}
    (ho : getO j st.objs = some (.inst C as)) (hp : PlainAttr K C name) (hv : getA name as = some v) (hb : isBi v = false) (hov : VR ρ (.ref j) ov)
    (q : ∀ val s', R w os₀ h₀ L outs loc st ρ s' → VR ρ v val → Q val s') : wpAny (model prog w) A (getAttr ov name true) Q E s := by
  obtain ⟨m, F, _⟩ := r.fr
  obtain ⟨ns, pre, post, a, dx, n, es, I⟩ := r.inst ho hov
  obtain ⟨val, h1, h2⟩ := I.ar.getL hv
  obtain ⟨attr, f1, f2⟩ := hp.find
  rw [I.e]
  exact get_own F X I.at_ hp.get hp.dict f1 f2 h1 (handed_of h2 hb) (q _ _ (r.toks _ (Nat.le_succ _)) h2)

theorem R.setPlain (r : R w os₀ h₀ L outs loc st ρ s) (X : K.In h₀) {j : Nat} {C : Addr} {as : List (Str × V)} {name : Str} {v : V} {ov val : Value} {Q : Unit → Shared → Prop}
    (ho : getO j st.objs = some (.inst C as)) (hp : PlainAttr K C name) (hz : as.length ≤ 900) (hov : VR ρ (.ref j) ov) (hv : VR ρ v val)
    (q : ∀ s', R w os₀ h₀ L outs loc { st with objs := putO j (.inst C (putA name v as)) st.objs } ρ s' → Q () s') : wpAny (model prog w) A (setAttr ov name val) Q E s := by
  obtain ⟨m, F, hm⟩ := r.fr
  obtain ⟨ns, pre, post, a, dx, n, es, I⟩ := r.inst ho hov
  rw [I.e]
  have ar := I.ar.put (x := name) (t := s.toks + 1) hv
  have nd := I.nd
  have N := I.N
  have e₁ : ∀ o, pre ++ ([(a, instObj C dx), (dx, o)] ++ post) = (pre ++ [(a, instObj C dx)]) ++ (dx, o) :: post := fun o => by rw [List.append_assoc]; rfl
  rw [I.t.e, e₁] at nd N
  have U := upd_of_nodup (o' := dictOf (putL name (PyData.keyHash w.params name) (.str name (s.toks + 1)) val es) (putN name es n)) nd
  refine set_dict F X N I.at_ rfl hp.setter hp.over hp.taker hp.dict (I.ar.getL_some name) rfl U ?_ fun h' F' N' => q _ ⟨⟨m, F', hm⟩, ⟨_, N', e₁ _ ▸ I.t.put _ _ (.inst ar), ?_⟩, r.free, r.os, r.gens, Nat.lt_of_lt_of_le r.tok (Nat.le_add_right _ 2)⟩
  · rw [ar.length]
    exact Nat.le_trans (putA_length name v as) (Nat.le_trans (Nat.succ_le_succ hz) (by decide))
  · rw [List.map_append] at nd ⊢
    exact nd

/-- a ledger with one more, by its new facts -/
theorem R.newAtN (r : R w os₀ h₀ L outs loc st ρ s) {m : Str → Option Value} (hm : ∀ x v, getA x loc = some v → LocR outs.cl m ρ x v) {ns : List (Addr × Obj)} (N : News h₀ L s.heap ns) (T : Tab w.params ρ (RestIs os₀ outs ρ.im) st.objs ns) (nd : (ns.map (·.1)).Nodup)
    {h' : Heap} {tk : Nat} {a : Addr} {o : Obj} {x : O} (F' : Fr h₀ L h' m) (N' : News h₀ L h' ((a, o) :: ns)) (hn : s.heap.get? a = none) (hx : ∀ ρ', LabLe ρ ρ' → OAt w.params ρ' x a [(a, o)]) (htk : s.toks ≤ tk := by omega) :
    ∃ ρ', LabLe ρ ρ' ∧ ρ'.of st.next = some a ∧ R w os₀ h₀ L outs loc { st with objs := (st.next, x) :: st.objs, next := st.next + 1 } ρ' { s with heap := h', toks := tk } :=
  have le := Lab.put_le (a := a) (r.free _ (Nat.le_refl _))
  ⟨_, le, Lab.put_self .., ⟨m, F', fun y v e => (hm y v e).mono le⟩, ⟨_, N', (hx _ le).tab (Lab.put_self ..) (T.mono le), List.nodup_cons.mpr ⟨News.notIn N hn, nd⟩⟩, Lab.put_free r.free, r.os, r.gens, Nat.lt_of_lt_of_le r.tok htk⟩
/-- one new object -/
theorem R.newAt (r : R w os₀ h₀ L outs loc st ρ s) {h' : Heap} {tk : Nat} {a : Addr} {o : Obj} {x : O} (hk : ∀ b o, s.heap.get? b = some o → h'.get? b = some o) (hn : s.heap.get? a = none) (ho : h'.get? a = some o)
    (hx : ∀ ρ', LabLe ρ ρ' → OAt w.params ρ' x a [(a, o)]) (htk : s.toks ≤ tk := by omega) :
    ∃ ρ', LabLe ρ ρ' ∧ ρ'.of st.next = some a ∧ R w os₀ h₀ L outs loc { st with objs := (st.next, x) :: st.objs, next := st.next + 1 } ρ' { s with heap := h', toks := tk } := by
  obtain ⟨m, F, hm⟩ := r.fr
  obtain ⟨ns, N, T, nd⟩ := r.led
  exact r.newAtN hm N T nd (F.keeps hk) (News.grow1 F N hk hn ho) hn hx htk
theorem size_none {h : Heap} {a : Addr} (ha : h.objs.size ≤ a) : h.get? a = none := by
  cases e : h.get? a with
  | none => rfl
  | some o => exact absurd (Heap.lt_size e) (Nat.not_lt.mpr ha)
theorem R.new1 (r : R w os₀ h₀ L outs loc st ρ s) {h' : Heap} {tk : Nat} {o : Obj} {x : O} (hk : ∀ b o, s.heap.get? b = some o → h'.get? b = some o) (ho : h'.get? s.heap.objs.size = some o)
    (hx : ∀ ρ', LabLe ρ ρ' → OAt w.params ρ' x s.heap.objs.size [(s.heap.objs.size, o)]) (htk : s.toks ≤ tk := by omega) :
    ∃ ρ', LabLe ρ ρ' ∧ ρ'.of st.next = some s.heap.objs.size ∧ R w os₀ h₀ L outs loc { st with objs := (st.next, x) :: st.objs, next := st.next + 1 } ρ' { s with heap := h', toks := tk } :=
  r.newAt hk (size_none (Nat.le_refl _)) ho hx htk
/-- the rest of the ledger, told anew: its own objects, the staying ones, the frames' -/
theorem R.relay {outs' : Fx} {im' : List (Addr × Obj)} (r : R w os₀ h₀ L outs loc st ρ s) (hi : ∀ p ∈ ρ.im, p ∈ im') (hcl : outs'.cl = outs.cl) (hfs : outs'.fs = outs.fs) {m : Str → Option Value} (hm : RFr h₀ L outs.cl loc ρ s.heap m) {h' : Heap} {tk : Nat} (F' : Fr h₀ L h' m)
    (hN : ∀ pre l, News h₀ L s.heap (pre ++ (outs.raw ++ (ρ.im ++ l))) → ((pre ++ (outs.raw ++ (ρ.im ++ l))).map (·.1)).Nodup → News h₀ L h' (pre ++ (outs'.raw ++ (im' ++ l))) ∧ ((pre ++ (outs'.raw ++ (im' ++ l))).map (·.1)).Nodup) (htk : s.toks ≤ tk := by omega) :
    LabLe ρ ⟨ρ.of, im'⟩ ∧ R w os₀ h₀ L outs' loc st ⟨ρ.of, im'⟩ { s with heap := h', toks := tk } := by
  have le : LabLe ρ ⟨ρ.of, im'⟩ := ⟨fun _ _ h => h, hi⟩
  obtain ⟨ns, N, T, nd⟩ := r.led
  obtain ⟨pre, l, X⟩ := (T.mono le).parts
  obtain ⟨c, fs, Y⟩ := X.r
  have e := X.e
  rw [Y.e] at e
  subst e
  obtain ⟨h1, h2⟩ := hN pre (c ++ fs) N nd
  exact ⟨le, ⟨m, F', fun y v e => hcl ▸ (hm.hm y v e).mono le⟩, ⟨_, h1, X.put _ _ ⟨c, fs, rfl, Y.ct, hfs ▸ Y.fr⟩, h2⟩, r.free, r.os, r.gens, Nat.lt_of_lt_of_le r.tok htk⟩
theorem News.perm {h : Heap} {a b : List (Addr × Obj)} (e : a.Perm b) (N : News h₀ L h b) (nd : (b.map (·.1)).Nodup) : News h₀ L h a ∧ (a.map (·.1)).Nodup := ⟨fun p hp => N p (e.mem_iff.mp hp), (e.map (·.1)).nodup_iff.mpr nd⟩
/-- a new object that stays -/
theorem R.newIm (r : R w os₀ h₀ L outs loc st ρ s) {h' : Heap} {tk : Nat} {a : Addr} {o : Obj} (hk : ∀ b o, s.heap.get? b = some o → h'.get? b = some o) (hn : s.heap.get? a = none) (ho : h'.get? a = some o) (htk : s.toks ≤ tk := by omega) :
    LabLe ρ ⟨ρ.of, (a, o) :: ρ.im⟩ ∧ R w os₀ h₀ L outs loc st ⟨ρ.of, (a, o) :: ρ.im⟩ { s with heap := h', toks := tk } := by
  obtain ⟨m, M⟩ := r.fr
  refine r.relay (outs' := outs) (fun _ h => .tail _ h) rfl rfl M (M.F.keeps hk) (fun pre l N nd => ?_) htk
  have e : (pre ++ (outs.raw ++ ((a, o) :: ρ.im ++ l))).Perm ((a, o) :: (pre ++ (outs.raw ++ (ρ.im ++ l)))) := by
    rw [← List.append_assoc, ← List.append_assoc pre]; exact List.perm_middle
  exact News.perm e (News.grow1 M.F N hk hn ho) (List.nodup_cons.mpr ⟨News.notIn N hn, nd⟩)
theorem R.imAt (r : R w os₀ h₀ L outs loc st ρ s) {p : Addr × Obj} (hp : p ∈ ρ.im) : s.heap.get? p.1 = some p.2 := by
  obtain ⟨ns, N, T, nd⟩ := r.led
  obtain ⟨pre, l, X⟩ := T.parts
  obtain ⟨c, fs, Y⟩ := X.r
  exact (N p (X.e ▸ List.mem_append_right _ (Y.e ▸ List.mem_append_right _ (List.mem_append_left _ hp)))).1
/-- a list, as it lies -/
structure ListAt (ρ : Lab) (h : Heap) (val : Value) (vs : List V) (a : Addr) (xs : List Value) (n : Nat) : Prop where
  e : val = .ref a
  at_ : h.get? a = some (listOf xs.toArray n)
  vr : VRs ρ vs xs
  sz : vs.length ≤ sizeLine
/-- a frozen list, as it lies -/
theorem R.frozen (r : R w os₀ h₀ L outs loc st ρ s) {v : V} {val : Value} {vs : List V} (h : VR ρ v val) (e : itemsV v = some vs) : ∃ a xs n, ListAt ρ s.heap val vs a xs n := by
  obtain ⟨a, xs, n, X⟩ := h.frozen e
  exact ⟨a, xs, n, X.e, r.imAt X.im, X.vr, X.sz⟩
theorem isList_of {h : Heap} {a : Addr} {xs : Array Value} {n : Nat} (e : h.get? a = some (listOf xs n)) : h.IsList a xs := ⟨_, e, rfl, n, rfl⟩
/-- a frozen list's value -/
theorem VR.of_items {a : Addr} {xs : List Value} {n : Nat} {v : V} {vs : List V} (hm : (a, listOf xs.toArray n) ∈ ρ.im) (hv : VRs ρ vs xs) (hi : itemsV v = some vs) (hc : vs.all closedV = true) (hz : vs.length ≤ sizeLine) : VR ρ v (.ref a) := by
  cases v with
  | tr us => have e : us = vs := Option.some.inj hi; subst e; exact .tr' hm hv hc hz
  | tri us => have e : us.map V.int = vs := Option.some.inj hi; subst e; exact .tri hm hv.to_ints (List.length_map (as := us) _ ▸ hz)
  | trs us => have e : us.map V.str = vs := Option.some.inj hi; subst e; exact .trs hm hv.to_strs.1 (List.length_map (as := us) _ ▸ hz) hv.to_strs.2
  | _ => exact no' hi
/-- a new frozen list -/
theorem R.newList (r : R w os₀ h₀ L outs loc st ρ s) {h' : Heap} {tk : Nat} {a : Addr} {xs : List Value} {n : Nat} {v : V} {vs : List V} (hk : ∀ b o, s.heap.get? b = some o → h'.get? b = some o) (hn : s.heap.get? a = none)
    (ho : h'.get? a = some (listOf xs.toArray n)) (hv : VRs ρ vs xs) (hi : itemsV v = some vs) (hc : vs.all closedV = true) (hz : vs.length ≤ sizeLine) (htk : s.toks ≤ tk := by omega) :
    ∃ ρ', LabLe ρ ρ' ∧ VR ρ' v (.ref a) ∧ R w os₀ h₀ L outs loc st ρ' { s with heap := h', toks := tk } := by
  obtain ⟨le, hR⟩ := r.newIm (tk := tk) hk hn ho htk
  exact ⟨_, le, .of_items (.head _) (hv.mono le) hi hc hz, hR⟩
theorem ne_of_sEq {x y : Str} (h : sEq x y = false) : (x == y) = false := beq_eq_false_iff_ne.mpr (sEq_false h)
theorem R.name (r : R w os₀ h₀ L outs loc st ρ s) {x : Str} {v : V} {pos : Pos} {env : Env} {Q : Value → Shared → Prop}
    (hL : env.locals = L) (hk : env.scope.kind = .function) (hx : env.kindOf x = some .local) (hcl : outs.cl.lookup x = none) (hd : sEq x "__debug__" = false) (hv : getA x loc = some v) (q : ∀ val, VR ρ v val → Q val s) :
    wpAny (model prog w) A (eval (.Name x pos) env) Q E s := by
  obtain ⟨m, F, hm⟩ := r.fr
  subst hL
  obtain ⟨val, h1, h2⟩ := (hm x v hv).get hcl
  exact wpAny_Name (wpAny_loadName_local hk hx F.ns h1 (q _ h2)) (ne_of_sEq hd)
theorem R.cellAt (r : R w os₀ h₀ L outs loc st ρ s) {x : Str} {v : V} {j : Nat} {c : Addr} (hcl : outs.cl.lookup x = some c) (hl : getA x loc = some (.ref j)) (ho : getO j st.objs = some (.cell (some v))) :
    ∃ val, s.heap.IsCell c (some val) ∧ VR ρ v val := by
  obtain ⟨l, pre, post, ns, X⟩ := r.cell0 hcl hl ho
  obtain ⟨o, y, e, hv, d⟩ := X.t.at_.inv
  have hns := X.t.e
  rw [e] at hns
  exact ⟨y, ⟨o, (X.N (c, o) (hns ▸ List.mem_append_right _ (.head _))).1, d⟩, hv⟩
theorem R.nameCell (r : R w os₀ h₀ L outs loc st ρ s) {x : Str} {v : V} {pos : Pos} {env : Env} {j : Nat} {c : Addr} {Q : Value → Shared → Prop}
    (hk : env.scope.kind = .function) (hx : env.kindOf x = some .cell) (hcl : outs.cl.lookup x = some c) (hce : env.cells = outs.cl) (hd : sEq x "__debug__" = false) (hl : getA x loc = some (.ref j)) (ho : getO j st.objs = some (.cell (some v))) (q : ∀ val, VR ρ v val → Q val s) :
    wpAny (model prog w) A (eval (.Name x pos) env) Q E s := by
  obtain ⟨val, h1, h2⟩ := r.cellAt hcl hl ho
  exact wpAny_Name (wpAny_loadName_cell hk hx (hce ▸ hcl) h1 (q _ h2)) (ne_of_sEq hd)
theorem R.nameFree (r : R w os₀ h₀ L outs loc st ρ s) {x : Str} {v : V} {pos : Pos} {env : Env} {j : Nat} {c : Addr} {Q : Value → Shared → Prop}
    (hk : env.scope.kind = .function) (hx : env.kindOf x = some .free) (hcl : outs.cl.lookup x = some c) (hce : env.cells = outs.cl) (hd : sEq x "__debug__" = false) (hd2 : sEq x "__classdict__" = false) (hl : getA x loc = some (.ref j)) (ho : getO j st.objs = some (.cell (some v))) (q : ∀ val, VR ρ v val → Q val s) :
    wpAny (model prog w) A (eval (.Name x pos) env) Q E s := by
  obtain ⟨val, h1, h2⟩ := r.cellAt hcl hl ho
  exact wpAny_Name (wpAny_loadName_free hk hx (hce ▸ hcl) h1 (q _ h2) (ne_of_sEq hd2)) (ne_of_sEq hd)
theorem R.glob (r : R w os₀ h₀ L outs loc st ρ s) {mg mb : Str → Option Value} (G : Gd K mg mb h₀) {Γ : Gam} {X : Nat} (O : Γ.Ok prog w K X) {x : Str} {v : V} {pos : Pos} {env : Env} {Q : Value → Shared → Prop}
    (hk : env.scope.kind = .function) (hx : env.kindOf x = some .globalImplicit) (hg : env.globals = mainGlobals) (hb : env.builtins = builtinsNs) (hd : sEq x "__debug__" = false) (hv : getA x Γ.glob = some v) (q : ∀ val, VR ρ v val → Q val s) :
    wpAny (model prog w) A (eval (.Name x pos) env) Q E s := by
  obtain ⟨val, h1, h2⟩ := O.glob x v (getA_mem hv)
  have G' := G.keeps r.keep
  rcases h2 with h2 | ⟨h2, h3, h4⟩
  · exact Name_function_global hk hx (loadGlobal_global (env := env) (hg ▸ G'.g) (mg_of G'.inK G'.g h2) (q _ (h1 ρ))) (ne_of_sEq hd)
  · exact Name_function_global hk hx (loadGlobal_builtin (env := env) (hg ▸ G'.g) (mg_none_of G'.inK G'.g h2) (hb ▸ G'.b) ((G'.builtins x h4).trans h3) (q _ (h1 ρ))) (ne_of_sEq hd)
end
end Mine
end
section
open PySem PySem.W PyProof.Rows PySem.Calls
set_option Elab.async false
set_option maxRecDepth 100000
set_option genSizeOf false
set_option genInjectivity false
namespace Mine

theorem VRs.getN {ρ : Lab} {vs : List V} {xs : List Value} (r : VRs ρ vs xs) : ∀ i, VR ρ (getN .none i vs) (getN .none i xs) := by
  induction r with
  | nil => intro i; cases i <;> exact .none
  | cons a _ ih => intro i; cases i with
    | zero => exact a
    | succ i => exact ih i

/-! from a clean state to clean states -/
section
variable (prog : Program) (w : World) (os₀ : Glo)
/-- what may come after: of a value, of a truth, of a statement's end -/
noncomputable def PE (f : FD) (loc : Loc) (ρ : Lab) (K : V → St → Prop) (Q : Value → Shared → Prop) : Prop := ∀ v st' ρ' val s', K v st' → LabLe ρ ρ' → R w os₀ f.h₀ f.L f.outs loc st' ρ' s' → VR ρ' v val → Q val s'
noncomputable def PT (f : FD) (loc : Loc) (ρ : Lab) (K : Bool → St → Prop) (Q : Bool → Shared → Prop) : Prop := ∀ c st' ρ' s', K c st' → LabLe ρ ρ' → R w os₀ f.h₀ f.L f.outs loc st' ρ' s' → Q c s'
noncomputable def PS (f : FD) (ρ : Lab) (K : Fl → Loc → St → Prop) (Q : Flow → Shared → Prop) : Prop := ∀ fl loc' st' ρ' fv s', K fl loc' st' → LabLe ρ ρ' → R w os₀ f.h₀ f.L f.outs loc' st' ρ' s' → FlR ρ' fl fv → Q fv s'
noncomputable def TE (f : FD) (e : Expr) (loc : Loc) (st : St) (k : V → St → Prop) : Prop :=
  ∀ ρ s Q Ex, R w os₀ f.h₀ f.L f.outs loc st ρ s → PE w os₀ f loc ρ k Q → wpAny (model prog w) f.A (eval e f.env) Q Ex s
noncomputable def TT (f : FD) (e : Expr) (loc : Loc) (st : St) (k : Bool → St → Prop) : Prop :=
  ∀ ρ s Q Ex, R w os₀ f.h₀ f.L f.outs loc st ρ s → PT w os₀ f loc ρ k Q → wpAny (model prog w) f.A (isTrue e f.env (eval e f.env)) Q Ex s
noncomputable def TB (f : FD) (b : List Stmt) (loc : Loc) (st : St) (k : Fl → Loc → St → Prop) : Prop :=
  ∀ ρ s Q Ex, R w os₀ f.h₀ f.L f.outs loc st ρ s → PS w os₀ f ρ k Q → wpAny (model prog w) f.A (execs b f.env) Q Ex s
noncomputable def TS (f : FD) (x : Stmt) (loc : Loc) (st : St) (k : Fl → Loc → St → Prop) : Prop :=
  ∀ ρ s Q Ex, R w os₀ f.h₀ f.L f.outs loc st ρ s → PS w os₀ f ρ k Q → wpAny (model prog w) f.A (exec x f.env) Q Ex s
noncomputable def TU (f : FD) (A' : Around) (a : Addr) (vs : List V) (xs : List Str) (kvs : List V) (st : St) (k : V → St → Prop) : Prop :=
  ∀ loc ρ s vals kvals (Rr : Result → Shared → Prop), R w os₀ f.h₀ f.L f.outs loc st ρ s → VRs ρ vs vals → VRs ρ kvs kvals → xs.length = kvs.length → PE w os₀ f loc ρ k (fun val => Rr (.ok (.ret val))) → codeAny (model prog w) A' (.call (.ref a) ⟨vals, xs.zip kvals⟩) Rr s
end
theorem PE.trans {w : World} {os₀ : Glo} {f : FD} {loc : Loc} {ρ ρ' : Lab} {K : V → St → Prop} {Q : Value → Shared → Prop} (q : PE w os₀ f loc ρ K Q) (le : LabLe ρ ρ') : PE w os₀ f loc ρ' K Q := fun v st' ρ₂ val s' hk le' => q v st' ρ₂ val s' hk (le.trans le')
theorem PT.trans {w : World} {os₀ : Glo} {f : FD} {loc : Loc} {ρ ρ' : Lab} {K : Bool → St → Prop} {Q : Bool → Shared → Prop} (q : PT w os₀ f loc ρ K Q) (le : LabLe ρ ρ') : PT w os₀ f loc ρ' K Q := fun v st' ρ₂ s' hk le' => q v st' ρ₂ s' hk (le.trans le')
theorem PS.trans {w : World} {os₀ : Glo} {f : FD} {ρ ρ' : Lab} {K : Fl → Loc → St → Prop} {Q : Flow → Shared → Prop} (q : PS w os₀ f ρ K Q) (le : LabLe ρ ρ') : PS w os₀ f ρ' K Q := fun v loc' st' ρ₂ fv s' hk le' => q v loc' st' ρ₂ fv s' hk (le.trans le')
/-- a frame in which n more steps go -/
structure Fit (K : Frag) (mg mb : Str → Option Value) (X n : Nat) (f : FD) : Prop where
  ok : f.Ok K mg mb
  d : f.A.depth + n + 10 < X
  u : f.A.units + 10 * n + 30 < 10 * X
structure AFit (X n : Nat) (f : FD) (A' : Around) : Prop where
  frames : A'.frames = f.A.frames
  handled : A'.handled = none
  d : A'.depth + n + 10 < X
  u : A'.units + 10 * n + 30 < 10 * X
theorem Fit.pred {K : Frag} {mg mb : Str → Option Value} {X n : Nat} {f : FD} (h : Fit K mg mb X (n + 1) f) : Fit K mg mb X n f := ⟨h.ok, Nat.lt_of_le_of_lt (by omega) h.d, Nat.lt_of_le_of_lt (by omega) h.u⟩
theorem Fit.raw {K : Frag} {mg mb : Str → Option Value} {X n : Nat} {f : FD} (h : Fit K mg mb X n f) (raw : List (Addr × Obj)) : Fit K mg mb X n (f.withRaw raw) := ⟨h.ok.withRaw raw, h.d, h.u⟩
theorem Fit.here {K : Frag} {mg mb : Str → Option Value} {X n : Nat} {f : FD} (h : Fit K mg mb X (n + 1) f) : AFit X n f f.A := ⟨rfl, h.ok.handled, h.pred.d, h.pred.u⟩
theorem Fit.in1 {K : Frag} {mg mb : Str → Option Value} {X n : Nat} {f : FD} (h : Fit K mg mb X (n + 1) f) : AFit X n f f.A.in1 := ⟨rfl, h.ok.handled, h.pred.d, Nat.lt_of_le_of_lt (show f.A.units + 1 + 10 * n + 30 ≤ f.A.units + 10 * (n + 1) + 30 by omega) h.u⟩
theorem Fit.dlt {K : Frag} {mg mb : Str → Option Value} {X n : Nat} {f : FD} (h : Fit K mg mb X n f) : f.A.depth < X := Nat.lt_of_le_of_lt (by omega) h.d
theorem Fit.ult {K : Frag} {mg mb : Str → Option Value} {X n : Nat} {f : FD} (h : Fit K mg mb X n f) : f.A.units < 10 * X := Nat.lt_of_le_of_lt (by omega) h.u
theorem Fit.line {K : Frag} {mg mb : Str → Option Value} {X n : Nat} {f : FD} (h : Fit K mg mb X n f) (hX : X ≤ 900) : f.A.units + 10 < cLine := by have := h.u; unfold cLine; omega
theorem Fit.line70 {K : Frag} {mg mb : Str → Option Value} {X n : Nat} {f : FD} (h : Fit K mg mb X n f) (hX : X ≤ 900) : f.A.units + 70 < cLine := by have := h.u; unfold cLine; omega

section
variable (prog : Program) (w : World) (K : Frag) (mg mb : Str → Option Value) (os₀ : Glo)
structure Sound (X n : Nat) (r : RunF) : Prop where
  E : ∀ (f : FD), Fit K mg mb X n f → ∀ {p loc st e k} {k' : V → St → Prop}, r.E f.cs.names p loc st e k → (∀ p v st, k p v st → k' v st) → TE prog w os₀ f e loc st k'
  T : ∀ (f : FD), Fit K mg mb X n f → ∀ {p loc st e k} {k' : Bool → St → Prop}, r.T f.cs.names p loc st e k → (∀ p c st, k p c st → k' c st) → TT prog w os₀ f e loc st k'
  U : ∀ (f : FD), f.Ok K mg mb → ∀ {A'}, AFit X n f A' → ∀ {p st a vs xs kvs k} {k' : V → St → Prop}, r.U p st a vs xs kvs k → (∀ p v st, k p v st → k' v st) → TU prog w os₀ f A' a vs xs kvs st k'
  S : ∀ (f : FD), Fit K mg mb X n f → ∀ {p loc st x k} {k' : Fl → Loc → St → Prop}, r.S f.cs.names p loc st x k → (∀ p fl loc st, k p fl loc st → k' fl loc st) → TS prog w os₀ f x loc st k'
  B : ∀ (f : FD), Fit K mg mb X n f → ∀ {p loc st b k} {k' : Fl → Loc → St → Prop}, r.B f.cs.names p loc st b k → (∀ p fl loc st, k p fl loc st → k' fl loc st) → TB prog w os₀ f b loc st k'
end

/-! a frame upon a frame: the names' object of the one behind goes into the ledger, and comes back -/
noncomputable def Hid (h : Heap) (L : Addr) (ns : List (Addr × Obj)) : Heap := hideAll h (L :: ns.map (·.1))
theorem hid_stay {h₀ h : Heap} {L : Addr} {m : Str → Option Value} {ns : List (Addr × Obj)} (F : Fr h₀ L h m) (N : News h₀ L h ns) : ∀ b o, h₀.get? b = some o → (Hid h L ns).get? b = some o := fun b o e => hideAll_get _ (F.keep b o e) fun q => by
  rcases List.mem_cons.mp q with q | q
  · rw [q] at e
    exact absurd (Nat.lt_of_lt_of_le (Heap.lt_size e) F.above) (Nat.lt_irrefl _)
  · obtain ⟨p, hp, q⟩ := List.mem_map.mp q
    rw [← q, (N p hp).2.2] at e; exact no' e
theorem hid_size (h : Heap) (L : Addr) (ns : List (Addr × Obj)) : (Hid h L ns).objs.size = h.objs.size := hideAll_size _ _
/-- new cells beside a frame -/
structure CellsIn (h h₁ : Heap) (L' : Addr) (cells : List (Addr × Obj)) : Prop where
  at_ : ∀ p ∈ cells, h₁.get? p.1 = some p.2 ∧ p.1 ≠ L' ∧ h.objs.size ≤ p.1
  nd : (cells.map (·.1)).Nodup
theorem hid_news {h h₁ : Heap} {L L' : Addr} {oL : Obj} {h₀ : Heap} {ns cells : List (Addr × Obj)} (N : News h₀ L h ns) (hL : h.get? L = some oL) (k : ∀ b o, h.get? b = some o → h₁.get? b = some o) (hL' : h.objs.size ≤ L') (C : CellsIn h h₁ L' cells) : News (Hid h L ns) L' h₁ (cells ++ (ns ++ [(L, oL)])) := by
  have old : ∀ b o, h.get? b = some o → b ∈ L :: ns.map (·.1) → h₁.get? b = some o ∧ b ≠ L' ∧ (Hid h L ns).get? b = none := fun b o e hm => ⟨k _ _ e, Nat.ne_of_lt (Nat.lt_of_lt_of_le (Heap.lt_size e) hL'), hideAll_none _ hm⟩
  intro p hp
  rcases List.mem_append.mp hp with hp | hp
  · have c := C.at_ p hp
    exact ⟨c.1, c.2.1, size_none (by rw [hid_size]; exact c.2.2)⟩
  · rcases List.mem_append.mp hp with hp | hp
    · exact old _ _ (N p hp).1 (.tail _ (List.mem_map_of_mem hp))
    · rw [List.mem_singleton.mp hp]
      exact old _ _ hL (.head _)
theorem hid_nodup {h h₁ : Heap} {L L' : Addr} {oL : Obj} {h₀ : Heap} {ns cells : List (Addr × Obj)} (N : News h₀ L h ns) (nd : (ns.map (·.1)).Nodup) (hL : h.get? L = some oL) (C : CellsIn h h₁ L' cells) : ((cells ++ (ns ++ [(L, oL)])).map (·.1)).Nodup := by
  have low : ∀ q ∈ ns ++ [(L, oL)], q.1 < h.objs.size := fun q hq => by
    rcases List.mem_append.mp hq with hq | hq
    · exact Heap.lt_size (N q hq).1
    · rw [List.mem_singleton.mp hq]; exact Heap.lt_size hL
  rw [List.map_append, List.nodup_append]
  refine ⟨C.nd, ?_, fun a ha b hb e => ?_⟩
  · rw [List.map_append, List.nodup_append]
    refine ⟨nd, List.nodup_cons.mpr ⟨List.not_mem_nil, .nil⟩, fun a ha b hb' e => ?_⟩
    obtain ⟨p, hp, e'⟩ := List.mem_map.mp ha
    exact (N p hp).2.1 (e'.trans (e.trans (List.mem_singleton.mp hb')))
  · obtain ⟨p, hp, e1⟩ := List.mem_map.mp ha
    obtain ⟨q, hq, e2⟩ := List.mem_map.mp hb
    have := low q hq
    rw [show q.1 = p.1 from e2.trans (e.symm.trans e1.symm)] at this
    exact absurd this (Nat.not_lt.mpr (C.at_ p hp).2.2)
section
variable {prog : Program} {w : World} {K : Frag} {mg mb : Str → Option Value} {os₀ : Glo} {Γ : Gam} {X n : Nat} {r : RunF}

theorem R.enter {f : FD} (hf : f.Ok K mg mb) {loc : Loc} {st : St} {ρ : Lab} {s : Shared} (hR : R w os₀ f.h₀ f.L f.outs loc st ρ s) : ∃ m hid, Gd K mg mb hid ∧
    ∀ (L' : Addr) (h₁ : Heap) (tk : Nat) (m' : Str → Option Value) (cl' : List (Str × Addr)) (loc' : Loc) (ρ₁ : Lab) (st₁ : St) (cells : List (Addr × Obj)), s.toks ≤ tk → s.heap.objs.size ≤ L' → h₁.Ns L' m' → (∀ b o, s.heap.get? b = some o → h₁.get? b = some o) →
      LabLe ρ ρ₁ → ρ₁.im = ρ.im → (∀ j, st₁.next ≤ j → ρ₁.of j = none) → (∀ rest l, Tab w.params ρ₁ rest st.objs l → Tab w.params ρ₁ rest st₁.objs (cells ++ l)) →
      CellsIn s.heap h₁ L' cells → (∀ y v, getA y loc' = some v → LocR cl' m' ρ₁ y v) →
      R w os₀ hid L' ⟨f.outs.fs ++ [(f.L, m)], cl', f.outs.raw⟩ loc' st₁ ρ₁ { s with heap := h₁, toks := tk } ∧
      ∀ raw' loc'' st' ρ' s' h', LabLe ρ ρ' → R w os₀ hid L' ⟨f.outs.fs ++ [(f.L, m)], cl', raw'⟩ loc'' st' ρ' s' → (∀ b o, b ≠ L' → s'.heap.get? b = some o → h'.get? b = some o) → R w os₀ f.h₀ f.L { f.outs with raw := raw' } loc st' ρ' { s' with heap := h' } := by
  obtain ⟨m, F, hm⟩ := hR.fr
  obtain ⟨ns, N, T, nd⟩ := hR.led
  obtain ⟨oL, es, ep, hL, hd⟩ := F.ns
  have stay := hid_stay F N
  refine ⟨m, Hid s.heap f.L ns, hf.gd.keeps stay, ?_⟩
  intro L' h₁ tk m' cl' loc' ρ₁ st₁ cells htk hL' hns hk₁ le₁ him hfree hcell hcs hloc
  refine ⟨⟨⟨m', ⟨hns, fun b o e => hk₁ b o (of_hideAll _ e), by rw [hid_size]; exact hL'⟩, hloc⟩, ⟨cells ++ (ns ++ [(f.L, oL)]), hid_news N hL hk₁ hL' hcs, hcell _ _ ?_, hid_nodup N nd hL hcs⟩, hfree, hR.os, hR.gens, Nat.lt_of_lt_of_le hR.tok htk⟩, ?_⟩
  · rw [him]
    exact (T.mono le₁).app fun l ⟨c, fs, Y⟩ => ⟨c, fs ++ [(f.L, oL)], by rw [Y.e]; simp only [List.append_assoc], Y.ct, Y.fr.snoc ⟨es, ep, hd⟩⟩
  · intro raw' loc'' st' ρ' s' h' le hR' hk'
    obtain ⟨m'', F₂, -⟩ := hR'.fr
    obtain ⟨ns', N₂, T₂, nd₂⟩ := hR'.led
    obtain ⟨pre, l, P⟩ := T₂.parts
    obtain ⟨c, fs, Y⟩ := P.r
    obtain ⟨fs', o', e', h1, es', ep', d⟩ := Y.fr.unsnoc
    have e : ns' = (pre ++ (raw' ++ (ρ'.im ++ (c ++ fs')))) ++ [(f.L, o')] := by rw [P.e, Y.e, e']; simp only [List.append_assoc]
    rw [e] at N₂ nd₂
    rw [List.map_append, List.nodup_append] at nd₂
    have hLmem := N₂ (f.L, o') (List.mem_append_right _ (.head _))
    refine ⟨⟨m, ⟨⟨o', es', ep', hk' _ _ hLmem.2.1 hLmem.1, d⟩, fun b o e => hk' _ _ (fun q => ?_) (F₂.keep b o (stay b o e)), F.above⟩, fun x v e => (hm x v e).mono le⟩, ⟨_, fun p hp => ?_, P.put _ _ ⟨c, fs', rfl, Y.ct, h1⟩, nd₂.1⟩, hR'.free, hR'.os, hR'.gens, hR'.tok⟩
    · have h1 := Heap.lt_size (stay b o e)
      rw [q] at h1
      exact absurd (Nat.lt_of_lt_of_le h1 F₂.above) (Nat.lt_irrefl _)
    · have g := N₂ p (List.mem_append_left _ hp)
      refine ⟨hk' _ _ g.2.1 g.1, fun e => nd₂.2.2 p.1 (List.mem_map_of_mem hp) f.L (.head _) e, ?_⟩
      cases q : f.h₀.get? p.1 with
      | none => rfl
      | some o => have g := g.2.2; rw [stay _ _ q] at g; exact no' g.symm

/-! cells of a new frame -/
theorem cellNames_mem {x : Str} {names : List (Str × NameKind)} : (x, NameKind.cell) ∈ names → x ∈ cellNames names := by
  induction names with
  | nil => exact fun h => nomatch h
  | cons p r ih =>
    obtain ⟨n, k⟩ := p
    intro h
    rcases List.mem_cons.mp h with e | h
    · rw [← (Prod.mk.inj e).1, ← (Prod.mk.inj e).2]; exact .head _
    · have := ih h
      cases k <;> first | exact this | exact .tail _ this
theorem cellsFrom_eq (names : List (Str × NameKind)) : ∀ (a : Nat) (acc : List (Str × Addr)), cellsFrom a names acc = accL id a (cellNames names) acc := by
  induction names with
  | nil => exact fun _ _ => rfl
  | cons p r ih =>
    obtain ⟨x, k⟩ := p
    intro a acc
    cases k <;> exact ih _ _
/-- a name's place among the cells -/
noncomputable def idxS (y : Str) : List Str → Option Nat
  | [] => none
  | x :: r => match sEq y x with
    | true => some 0
    | false => (match idxS y r with | some i => some (i + 1) | none => none)
theorem idxS_get {y : Str} {cs : List Str} : ∀ {i : Nat}, idxS y cs = some i → cs[i]? = some y := by
  induction cs with
  | nil => exact fun h => no' h
  | cons x r ih =>
    intro i
    show (match sEq y x with | true => some 0 | false => (match idxS y r with | some i => some (i + 1) | none => none)) = some i → _
    cases h : sEq y x with
    | true => exact fun e => Option.some.inj e ▸ sEq_iff.mp h ▸ rfl
    | false =>
      show (match idxS y r with | some i => some (i + 1) | none => none) = some i → _
      cases h2 : idxS y r with
      | none => exact fun e => no' e
      | some j => exact fun e => Option.some.inj e ▸ ih h2
theorem idxS_mem {y : Str} {cs : List Str} : y ∈ cs → ∃ i, idxS y cs = some i := by
  induction cs with
  | nil => exact fun h => nomatch h
  | cons x r ih =>
    intro hm
    show ∃ i, (match sEq y x with | true => some 0 | false => (match idxS y r with | some i => some (i + 1) | none => none)) = some i
    cases h : sEq y x with
    | true => exact ⟨0, rfl⟩
    | false =>
      obtain ⟨i, e⟩ := ih ((List.mem_cons.mp hm).resolve_left (sEq_false h))
      exact ⟨i + 1, by rw [e]⟩
theorem idxS_none {y : Str} {cs : List Str} (h : y ∉ cs) : idxS y cs = none := by
  cases e : idxS y cs with
  | none => rfl
  | some i => exact absurd (List.mem_of_getElem? (idxS_get e)) h
theorem idxS_at {cs : List Str} (hnd : cs.Nodup) {i : Nat} {y : Str} : cs[i]? = some y → idxS y cs = some i := by
  induction cs generalizing i with
  | nil => exact fun h => no' (show (none : Option Str) = some y from h)
  | cons x r ih =>
    have hnd := List.nodup_cons.mp hnd
    cases i with
    | zero =>
      intro h
      rw [← Option.some.inj (show some x = some y from h)]
      show (match sEq x x with | true => some 0 | false => _) = _
      rw [sEq_self]
    | succ i =>
      intro h
      have h : r[i]? = some y := h
      show (match sEq y x with | true => some 0 | false => (match idxS y r with | some i => some (i + 1) | none => none)) = _
      cases e : sEq y x with
      | true => exact absurd (sEq_iff.mp e ▸ List.mem_of_getElem? h) hnd.1
      | false => rw [ih hnd.2 h]
theorem accL_get {β : Type} {f : Nat → β} {y : Str} {cs : List Str} (hnd : cs.Nodup) : ∀ {n : Nat} {acc : List (Str × β)}, getA y (accL f n cs acc) = (match idxS y cs with | some i => some (f (n + i)) | none => getA y acc) := by
  induction cs with
  | nil => exact rfl
  | cons x r ih =>
    intro n acc
    have hnd := List.nodup_cons.mp hnd
    show getA y (accL f (n + 1) r ((x, f n) :: acc)) = (match (match sEq y x with | true => some 0 | false => (match idxS y r with | some i => some (i + 1) | none => none)) with | some i => some (f (n + i)) | none => getA y acc)
    rw [ih hnd.2]
    have g : getA y ((x, f n) :: acc) = (match sEq y x with | true => some (f n) | false => getA y acc) := rfl
    cases e : sEq y x with
    | true => rw [idxS_none (sEq_iff.mp e ▸ hnd.1), g, e]; rfl
    | false =>
      cases idxS y r with
      | none => rw [g, e]
      | some i => show some (f (n + 1 + i)) = some (f (n + (i + 1))); rw [Nat.add_right_comm, Nat.add_assoc]
/-- labels, places and table rows of the new cells -/
noncomputable def cellLab : Nat → Nat → List Str → Lab → Lab
  | _, _, [], ρ => ρ
  | n, a, _ :: r, ρ => cellLab (n + 1) (a + 1) r (ρ.put n a)
noncomputable def cellObjs : Nat → List Obj → List (Addr × Obj) → List (Addr × Obj)
  | _, [], acc => acc
  | a, o :: r, acc => cellObjs (a + 1) r ((a, o) :: acc)
theorem cellLab_im {cs : List Str} : ∀ {n a : Nat} {ρ : Lab}, (cellLab n a cs ρ).im = ρ.im := by
  induction cs with
  | nil => exact rfl
  | cons _ r ih => exact ih
theorem cellLab_le {cs : List Str} : ∀ {n a : Nat} {ρ : Lab}, (∀ j, n ≤ j → ρ.of j = none) → LabLe ρ (cellLab n a cs ρ) := by
  induction cs with
  | nil => exact fun _ => .refl _
  | cons _ r ih => exact fun h => (Lab.put_le (h _ (Nat.le_refl _))).trans (ih (Lab.put_free h))
theorem cellLab_free {cs : List Str} : ∀ {n a : Nat} {ρ : Lab}, (∀ j, n ≤ j → ρ.of j = none) → ∀ j, n + cs.length ≤ j → (cellLab n a cs ρ).of j = none := by
  induction cs with
  | nil => exact fun h j hj => h j hj
  | cons _ r ih => exact fun h j hj => ih (Lab.put_free h) j (by rw [Nat.add_right_comm]; exact hj)
theorem cellLab_at {cs : List Str} : ∀ {n a : Nat} {ρ : Lab}, (∀ j, n ≤ j → ρ.of j = none) → ∀ i, i < cs.length → (cellLab n a cs ρ).of (n + i) = some (a + i) := by
  induction cs with
  | nil => exact fun _ i h => absurd h (Nat.not_lt_zero _)
  | cons _ r ih =>
    intro n a ρ h i hi
    cases i with
    | zero => exact (cellLab_le (Lab.put_free h)).of _ _ (Lab.put_self ..)
    | succ i =>
      have := ih (Lab.put_free (a := a) h) i (Nat.lt_of_succ_lt_succ hi) (a := a + 1)
      rw [Nat.add_right_comm, Nat.add_right_comm a] at this
      exact this
/-- a cell that holds what a name is -/
noncomputable def CellHas (ρ : Lab) (o : Obj) : Option V → Prop
  | some v => ∃ val, o.data = .cell (some val) ∧ VR ρ v val
  | none => o.data = .cell none
theorem CellHas.at_ {ρ : Lab} {P : Params} {o : Obj} {v : Option V} {a : Addr} (h : CellHas ρ o v) : OAt P ρ (.cell v) a [(a, o)] := by
  cases v with
  | none => exact .cell0 h
  | some v => obtain ⟨val, d, hv⟩ := h; exact .cell hv d
inductive CellsR (h : Heap) (ρ : Lab) (vals : Loc) : Nat → Nat → List Str → List Obj → Prop
  | nil (n a : Nat) : CellsR h ρ vals n a [] []
  | cons {n a : Nat} {x : Str} {r : List Str} {o : Obj} {os : List Obj} : h.get? a = some o → ρ.of n = some a → CellHas ρ o (getA x vals) → CellsR h ρ vals (n + 1) (a + 1) r os → CellsR h ρ vals n a (x :: r) (o :: os)
theorem CellsR.tab {h : Heap} {ρ : Lab} {vals : Loc} {n a : Nat} {cs : List Str} {os : List Obj} (c : CellsR h ρ vals n a cs os) {P : Params} {rest : List (Addr × Obj) → Prop} : ∀ {objs : List (Nat × O)} {l : List (Addr × Obj)}, Tab P ρ rest objs l → Tab P ρ rest (cellTab n cs vals objs) (cellObjs a os l) := by
  induction c with
  | nil n a => exact fun t => t
  | cons h1 h2 h3 _ ih => exact fun t => ih (.cons h2 h3.at_ t)
theorem cellObjs_app {os : List Obj} : ∀ {a : Nat} {acc l : List (Addr × Obj)}, cellObjs a os (acc ++ l) = cellObjs a os acc ++ l := by
  induction os with
  | nil => exact rfl
  | cons o r ih => exact fun {a acc l} => ih (acc := (a, o) :: acc)
theorem CellsR.mem {h : Heap} {ρ : Lab} {vals : Loc} {n a : Nat} {cs : List Str} {os : List Obj} (c : CellsR h ρ vals n a cs os) : ∀ {acc : List (Addr × Obj)} {p : Addr × Obj}, p ∈ cellObjs a os acc → p ∈ acc ∨ (h.get? p.1 = some p.2 ∧ a ≤ p.1) := by
  induction c with
  | nil n a => exact fun h => .inl h
  | @cons n a x r o os h1 h2 h3 _ ih =>
    intro acc p hp
    rcases ih hp with hp | hp
    · rcases List.mem_cons.mp hp with e | hp
      · exact .inr (e ▸ ⟨h1, Nat.le_refl _⟩)
      · exact .inl hp
    · exact .inr ⟨hp.1, Nat.le_of_succ_le hp.2⟩
theorem cellObjs_nodup {os : List Obj} : ∀ {a : Nat} {acc : List (Addr × Obj)}, (acc.map (·.1)).Nodup → (∀ p ∈ acc, p.1 < a) → ((cellObjs a os acc).map (·.1)).Nodup := by
  induction os with
  | nil => exact fun h _ => h
  | cons o r ih =>
    intro a acc h hl
    refine ih (List.nodup_cons.mpr ⟨fun hm => ?_, h⟩) fun p hp => ?_
    · obtain ⟨p, hp, e⟩ := List.mem_map.mp hm
      exact absurd (hl p hp) (by rw [show p.1 = a from e]; exact Nat.lt_irrefl _)
    · rcases List.mem_cons.mp hp with e | hp
      · rw [e]; exact Nat.lt_succ_self _
      · exact Nat.lt_succ_of_lt (hl p hp)
theorem CellsR.of {h : Heap} {ρ : Lab} {vals : Loc} {cs : List Str} : ∀ {n a : Nat}, (∀ i x, cs[i]? = some x → ρ.of (n + i) = some (a + i) ∧ ∃ o, h.get? (a + i) = some o ∧ CellHas ρ o (getA x vals)) → ∃ os, CellsR h ρ vals n a cs os := by
  induction cs with
  | nil => exact fun {n a} _ => ⟨[], .nil n a⟩
  | cons x r ih =>
    intro n a hx
    obtain ⟨h1, o, h2, h3⟩ := hx 0 x rfl
    obtain ⟨os, hos⟩ := ih (n := n + 1) (a := a + 1) fun i y hy => by
      have := hx (i + 1) y hy
      rw [Nat.add_right_comm, Nat.add_right_comm a]
      exact this
    exact ⟨o :: os, .cons h2 h1 h3 hos⟩
theorem hasS_of_mem {x : Str} {l : List Str} : x ∈ l → hasS x l = true := by
  induction l with
  | nil => exact fun h => nomatch h
  | cons y r ih =>
    intro h
    show (match sEq x y with | true => true | false => hasS x r) = true
    cases e : sEq x y with
    | true => rfl
    | false => exact ih ((List.mem_cons.mp h).resolve_left (sEq_false e))
theorem getA_none {α : Type} {x : Str} {l : List (Str × α)} : getA x l = none → ∀ p ∈ l, p.1 ≠ x := by
  induction l with
  | nil => exact fun _ _ h => nomatch h
  | cons q r ih =>
    show (match sEq x q.1 with | true => some q.2 | false => getA x r) = none → _
    cases e : sEq x q.1 with
    | true => exact fun h => no' h.symm
    | false => exact fun h => List.forall_mem_cons.mpr ⟨fun g => sEq_false e g.symm, ih h⟩
theorem bindL_skip {kd : Str → Option NameKind} {y : Str} {binds : List (Str × Value)} : ∀ {m : Str → Option Value}, y ∉ binds.map (·.1) → bindL kd binds m y = m y := by
  induction binds with
  | nil => exact fun _ => rfl
  | cons p r ih =>
    intro m h
    have h := not_or.mp (mt List.mem_cons.mpr h)
    refine (ih h.2).trans ?_
    by_cases hk : kd p.1 = some .local
    · rw [if_pos hk]; exact if_neg h.1
    · rw [if_neg hk]
theorem bindC_skip {kd : Str → Option NameKind} {y : Str} {binds : List (Str × Value)} : ∀ {m : Str → Option Value}, y ∉ binds.map (·.1) → bindC kd binds m y = m y := by
  induction binds with
  | nil => exact fun _ => rfl
  | cons p r ih =>
    intro m h
    have h := not_or.mp (mt List.mem_cons.mpr h)
    refine (ih h.2).trans ?_
    by_cases hk : kd p.1 = some .local
    · rw [if_pos hk]
    · rw [if_neg hk]; exact if_neg h.1
theorem bindL_get {kd : Str → Option NameKind} {y : Str} {v : Value} {binds : List (Str × Value)} : ∀ {m : Str → Option Value}, (binds.map (·.1)).Nodup → (y, v) ∈ binds → kd y = some .local → bindL kd binds m y = some v := by
  induction binds with
  | nil => exact fun _ h => nomatch h
  | cons p r ih =>
    intro m hnd hm hk
    have hnd := List.nodup_cons.mp hnd
    rcases List.mem_cons.mp hm with e | hm
    · subst e
      exact (bindL_skip hnd.1).trans (by rw [if_pos hk]; exact if_pos rfl)
    · exact ih hnd.2 hm hk
theorem bindC_get {kd : Str → Option NameKind} {y : Str} {v : Value} {binds : List (Str × Value)} : ∀ {m : Str → Option Value}, (binds.map (·.1)).Nodup → (y, v) ∈ binds → kd y ≠ some .local → bindC kd binds m y = some v := by
  induction binds with
  | nil => exact fun _ h => nomatch h
  | cons p r ih =>
    intro m hnd hm hk
    have hnd := List.nodup_cons.mp hnd
    rcases List.mem_cons.mp hm with e | hm
    · subst e
      exact (bindC_skip hnd.1).trans (by rw [if_neg hk]; exact if_pos rfl)
    · exact ih hnd.2 hm hk
/-! a def is called -/
noncomputable def FnI.cells (i : FnI) (a : Addr) : List (Str × Addr) := cellsFrom (a + 1) i.sc.names []
noncomputable def FnI.nenv (i : FnI) (a : Addr) : Env := newEnv i.sc a mainGlobals (i.cells a) (i.q ++ ".<locals>.") (some i.f) i.cdv none builtinsNs
noncomputable def FnI.binds (i : FnI) (vals kvals : List Value) : List (Str × Value) := i.bind.map fun b => (b.1, b.2.val vals kvals)
noncomputable def FnI.vbinds (i : FnI) (vs kvs : List V) : Loc := i.bind.map fun b => (b.1, b.2.v vs kvs)
theorem fnLoc_eq (i : FnI) (n : Nat) (vs kvs : List V) : fnLoc i n vs kvs = accL V.ref n i.cell ((i.bind.filter fun b => !(hasS b.1 i.cell)).map fun b => (b.1, b.2.v vs kvs)) := by
  unfold fnLoc
  cases h : i.cell with
  | nil => exact congrArg (List.map _) (List.filter_eq_self.mpr fun _ _ => rfl).symm
  | cons x r => rfl
theorem fnSt_eq (i : FnI) (st : St) (vs kvs : List V) : fnSt i st vs kvs = ⟨cellTab st.next i.cell (i.vbinds vs kvs) st.objs, st.next + i.cell.length⟩ := by
  unfold fnSt
  cases h : i.cell <;> rfl
theorem bind_val {ρ : Lab} {bind : List (Str × Src)} {vs kvs : List V} {vals kvals : List Value} (hv : VRs ρ vs vals) (hk : VRs ρ kvs kvals) (hc : ∀ b ∈ bind, match b.2 with | .const v val => VR0 v val | _ => True) {b : Str × Src} (hb : b ∈ bind) : VR ρ (b.2.v vs kvs) (b.2.val vals kvals) := by
  have := hc b hb
  revert this
  cases b.2 with
  | arg i => exact fun _ => hv.getN i
  | kw j => exact fun _ => hk.getN j
  | const u val => exact fun h => h ρ
section
variable {i : FnI} (I : FnOk K i)
include I
theorem FnOk.lookup (a : Addr) (y : Str) : (i.cells a).lookup y = (match idxS y i.cell with | some j => some (a + 1 + j) | none => none) := by
  rw [lookup_getA, show i.cells a = accL id (a + 1) i.cell [] from (cellsFrom_eq _ _ _).trans (by rw [I.cell]), accL_get I.celnd]
  rfl
theorem FnOk.cellOf {a : Addr} {y : Str} (h : y ∈ i.cell) : ∃ c, (i.cells a).lookup y = some c := by
  obtain ⟨j, e⟩ := idxS_mem h
  exact ⟨_, (I.lookup a y).trans (by rw [e])⟩
theorem FnOk.notCell {y : Str} (h : i.sc.names.lookup y = some .local) : y ∉ i.cell := fun hm => I.clash h (I.cell ▸ hm)
theorem FnOk.noCell {a : Addr} {y : Str} (h : y ∉ i.cell) : (i.cells a).lookup y = none := (I.lookup a y).trans (by rw [idxS_none h])
theorem FnOk.bindsNd (vals kvals : List Value) : ((i.binds vals kvals).map (·.1)).Nodup := by
  rw [show (i.binds vals kvals).map (·.1) = i.bind.map (·.1) from List.map_map]; exact I.nodup
theorem FnOk.kinds (a : Addr) (vals kvals : List Value) : ∀ x ∈ i.binds vals kvals, i.sc.names.lookup x.1 = some .local ∨ (i.sc.names.lookup x.1 = some .cell ∧ ((i.cells a).lookup x.1).isSome = true) := by
  intro y hy
  obtain ⟨b, hb', e⟩ := List.mem_map.mp hy
  subst e
  exact (I.locs b hb').imp_right fun h => ⟨h.1, by obtain ⟨c, e⟩ := I.cellOf (a := a) h.2; show ((i.cells a).lookup b.1).isSome = true; rw [e]; rfl⟩
theorem FnOk.theCells {a : Addr} {h₁ : Heap} {ρ : Lab} {n : Nat} (hfree : ∀ j, n ≤ j → ρ.of j = none) {vs kvs : List V} {vals kvals : List Value} (hv : VRs ρ vs vals) (hk : VRs ρ kvs kvals)
    (hcell : ∀ x c, (i.cells a).lookup x = some c → h₁.IsCell c (bindC (fun y => i.sc.names.lookup y) (i.binds vals kvals) (fun _ => none) x)) : ∃ os, CellsR h₁ (cellLab n (a + 1) i.cell ρ) (i.vbinds vs kvs) n (a + 1) i.cell os := by
  refine CellsR.of fun j y hy => ⟨cellLab_at hfree j (List.getElem?_eq_some_iff.mp hy).1, ?_⟩
  obtain ⟨o, ho, hd⟩ := hcell y (a + 1 + j) ((I.lookup a y).trans (by rw [idxS_at I.celnd hy]))
  refine ⟨o, ho, ?_⟩
  cases e : getA y (i.vbinds vs kvs) with
  | some v =>
    obtain ⟨b, hb', e2⟩ := List.mem_map.mp (getA_mem e)
    obtain ⟨e2, e3⟩ := Prod.mk.inj e2
    subst e2 e3
    refine ⟨b.2.val vals kvals, hd.trans (congrArg _ ?_), (bind_val hv hk I.consts hb').mono (cellLab_le hfree)⟩
    exact bindC_get (I.bindsNd ..) (List.mem_map.mpr ⟨b, hb', rfl⟩) fun h => I.notCell h (List.mem_of_getElem? hy)
  | none =>
    refine hd.trans (congrArg _ (bindC_skip fun hm => ?_))
    obtain ⟨p, hp, e3⟩ := List.mem_map.mp hm
    obtain ⟨b, hb', e4⟩ := List.mem_map.mp hp
    exact getA_none e (b.1, b.2.v vs kvs) (List.mem_map.mpr ⟨b, hb', rfl⟩) (by rw [← e3, ← e4])
theorem FnOk.theLocs {a : Addr} {ρ : Lab} {n : Nat} (hfree : ∀ j, n ≤ j → ρ.of j = none) {vs kvs : List V} {vals kvals : List Value} (hv : VRs ρ vs vals) (hk : VRs ρ kvs kvals) (y : Str) (v : V) (e : getA y (fnLoc i n vs kvs) = some v) :
    LocR (i.cells a) (bindL (fun y => i.sc.names.lookup y) (i.binds vals kvals) fun _ => none) (cellLab n (a + 1) i.cell ρ) y v := by
  rw [fnLoc_eq, accL_get I.celnd] at e
  have el := I.lookup a y
  cases hj : idxS y i.cell with
  | some j =>
    rw [hj] at e el
    exact .ofCell el (.inl ⟨_, (Option.some.inj e).symm, cellLab_at hfree j (List.getElem?_eq_some_iff.mp (idxS_get hj)).1⟩)
  | none =>
    rw [hj] at e el
    obtain ⟨b, hb', e2⟩ := List.mem_map.mp (getA_mem e)
    obtain ⟨e2, e3⟩ := Prod.mk.inj e2
    subst e2 e3
    obtain ⟨hb'', h2⟩ := List.mem_filter.mp hb'
    refine .of el ⟨b.2.val vals kvals, bindL_get (I.bindsNd ..) (List.mem_map.mpr ⟨b, hb'', rfl⟩) ?_, (bind_val hv hk I.consts hb'').mono (cellLab_le hfree)⟩
    refine (I.locs b hb'').resolve_right fun h1 => ?_
    rw [hasS_of_mem h1.2] at h2
    exact absurd h2 Bool.false_ne_true
end
/-- the frame of a call -/
noncomputable abbrev FnI.frame (i : FnI) (f : FD) (A' : Around) (a : Addr) (hid : Heap) (m : Str → Option Value) : FD :=
  ⟨A'.deeper (i.nenv a), hid, a, i.sc, i.q ++ ".<locals>.", some i.f, i.cdv, some a, ⟨f.outs.fs ++ [(f.L, m)], i.cells a, f.outs.raw⟩, i.nenv a :: f.fr⟩
theorem FnOk.frame_ok {i : FnI} (I : FnOk K i) {f : FD} (hf : f.Ok K mg mb) {A' : Around} (hfr : A'.frames = f.A.frames) (hh : A'.handled = none) {a : Addr} {hid : Heap} {m : Str → Option Value} (hgd : Gd K mg mb hid) : (i.frame f A' a hid m).Ok K mg mb := by
  refine ⟨fun env he => ?_, by show A'.frames.map _ = _; rw [hfr, hf.frames]; rfl, I.kind, hgd, hh, fun y hy => I.noCell (I.notCell hy), fun y hy => I.cellOf (I.cell ▸ cellNames_mem (mem_of_lookup hy)), fun y hy => absurd rfl (I.free _ (mem_of_lookup hy))⟩
  rcases List.mem_cons.mp he with e | he
  · subst e; exact ⟨I.kind, _, rfl, .inl rfl⟩
  · obtain ⟨a, b, hb1, hb2⟩ := hf.behind env he
    refine ⟨a, b, hb1, .inr ?_⟩
    rcases hb2 with e | ⟨p, hp, e⟩
    · exact ⟨(f.L, m), List.mem_append_right _ (.head _), e⟩
    · exact ⟨p, List.mem_append_left _ hp, e⟩
theorem callR {i : FnI} (I : FnOk K i) (f : FD) (hf : f.Ok K mg mb) {A' : Around} (hfr : A'.frames = f.A.frames) (hh : A'.handled = none) (hroom : A'.depth < recursionLimit)
    {loc : Loc} {st : St} {ρ : Lab} {s : Shared} {vs kvs : List V} {vals kvals : List Value} {Rr : Result → Shared → Prop} (hR : R w os₀ f.h₀ f.L f.outs loc st ρ s) (hv : VRs ρ vs vals) (hk : VRs ρ kvs kvals) (hn : vs.length = i.n) (hkn : kvs.length = i.kws.length)
    (h : ∀ f' : FD, f'.Ok K mg mb → f'.cs = i.sc → f'.A.depth = A'.depth + 1 → f'.A.units = A'.units + 3 → (f'.fr = f'.env :: f.fr ∧ f'.frame = some f'.L ∧ f'.code = i.cdv) → ∀ ρ₁ s₁, LabLe ρ ρ₁ → R w os₀ f'.h₀ f'.L f'.outs (fnLoc i st.next vs kvs) (fnSt i st vs kvs) ρ₁ s₁ →
      (∀ loc' st' ρ' s', LabLe ρ ρ' → R w os₀ f'.h₀ f'.L f'.outs loc' st' ρ' s' → R w os₀ f.h₀ f.L f.outs loc st' ρ' s') →
      wpAny (model prog w) f'.A (execs i.body f'.env) (fun fl s' => Rr (.ok (.ret (match fl with | .ret v => v | _ => .none))) s')
        (fun e s' => wpAny (model prog w) f'.A (leaving f'.env e) (fun _ s'' => Rr (.error e) s'') (fun e' s'' => Rr (.error e') s'') s') s₁) :
    codeAny (model prog w) A' (.call (.ref i.f) ⟨vals, i.kws.zip kvals⟩) Rr s := by
  obtain ⟨oc, od, osl, name, params, dV, kV, doc, pm, an, ct, hlook, hbind⟩ := I.look
  have XK := hf.gd.inK.keeps hR.keep
  obtain ⟨m, hid, hgd, ent⟩ := hR.enter hf
  refine codeAny_call_function (fd := fnOf name i.q params i.body i.sc dV kV doc pm an i.cdv ct) (body := i.body) hroom (XK _ _ hlook) rfl I.co I.gen rfl (codeRec_of XK I.code) (hbind s vals kvals XK (hv.length.trans hn) (hk.length.trans hkn) _ _ _ _ ?_)
  refine wpAny_with_toks (n := s.toks) (Nat.le_refl _) (wpAny_newFunctionEnv_cells I.kind (I.kinds _ vals kvals) fun env' he s' x htk => ?_)
  have he : env' = i.nenv s.heap.objs.size := he
  subst he
  refine ⟨(hf.gd.nolimit.keeps hR.keep).keeps x.toInCall.keep, codeAny_func ?_⟩
  obtain ⟨h₁, tk, e, hk₁⟩ := x.done
  subst e
  obtain ⟨os, hos⟩ := I.theCells (h₁ := h₁) hR.free hv hk x.cell
  obtain ⟨hR₁, back⟩ := ent s.heap.objs.size h₁ tk _ (i.cells s.heap.objs.size) (fnLoc i st.next vs kvs) (cellLab st.next (s.heap.objs.size + 1) i.cell ρ) (fnSt i st vs kvs) (cellObjs (s.heap.objs.size + 1) os [])
    htk (Nat.le_refl _) x.toInCall.ns hk₁ (cellLab_le hR.free) cellLab_im (by rw [fnSt_eq]; exact cellLab_free hR.free) (fun rest l t => by rw [fnSt_eq, ← cellObjs_app]; exact hos.tab t)
    ⟨fun p hp => (hos.mem hp).elim (fun h => nomatch h) fun hp => ⟨hp.1, Nat.ne_of_gt (Nat.lt_of_succ_le hp.2), Nat.le_of_lt (Nat.lt_of_succ_le hp.2)⟩, cellObjs_nodup .nil fun _ h => nomatch h⟩ (I.theLocs hR.free hv hk)
  exact wpAny_mono (h (i.frame f A' s.heap.objs.size hid m) (I.frame_ok hf hfr hh hgd) rfl rfl rfl ⟨rfl, rfl, rfl⟩ _ _ (cellLab_le hR.free) hR₁ fun loc' st' ρ' s' le hR' => back _ loc' st' ρ' s' s'.heap le hR' fun _ _ _ e => e) (fun _ _ q => q) fun _ _ q => q

theorem sound_B (ih : Sound prog w K mg mb os₀ X n r) (f : FD) (F : Fit K mg mb X (n + 1) f) {p : Path} {loc : Loc} {st : St} {b : List Stmt} {k : Path → Fl → Loc → St → Prop} {k' : Fl → Loc → St → Prop} (h : stB r f.cs.names p loc st b k) (hk : ∀ p fl loc st, k p fl loc st → k' fl loc st) : TB prog w os₀ f b loc st k' := by
  intro ρ s Q Ex hR q
  cases b with
  | nil => exact wpAny_execs_nil (q _ _ _ _ _ _ (hk _ _ _ _ h) (.refl _) hR .next)
  | cons x rest =>
    refine wpAny_execs_cons (ih.S f F.pred (k' := fun fl loc st => (match fl with | .next => TB prog w os₀ f rest loc st k' | fl => k' fl loc st)) h (fun p fl loc st h => ?_) ρ s _ Ex hR fun fl loc' st' ρ' fv s' g le hR' hfl => ?_)
    · cases fl with
      | next => exact ih.B f F.pred h hk
      | _ => exact hk _ _ _ _ h
    · cases hfl with
      | next => exact g ρ' s' _ Ex hR' (q.trans le)
      | brk => exact q _ _ _ _ _ _ g le hR' .brk
      | cont => exact q _ _ _ _ _ _ g le hR' .cont
      | ret hv => exact q _ _ _ _ _ _ g le hR' (.ret hv)
/-- a body's end, for its caller -/
theorem ret_done {f : FD} {loc : Loc} {ρ ρ' : Lab} {st' : St} {s' : Shared} {K' : V → St → Prop} {Rr : Result → Shared → Prop} (q : PE w os₀ f loc ρ K' (fun val => Rr (.ok (.ret val)))) {fl : Fl} {fv : Flow} (hk : retK (K' · st') fl) (le : LabLe ρ ρ') (hR : R w os₀ f.h₀ f.L f.outs loc st' ρ' s') : FlR ρ' fl fv →
    Rr (.ok (.ret (match fv with | .ret v => v | _ => .none))) s' := by
  intro hfl
  cases hfl with
  | next => exact q _ _ _ _ _ hk le hR .none
  | brk => exact hk.elim
  | cont => exact hk.elim
  | ret hx => exact q _ _ _ _ _ hk le hR hx
theorem sound_U (hX : X ≤ 900) (O : Γ.Ok prog w K X) (ih : Sound prog w K mg mb os₀ X n r) (f : FD) (hf : f.Ok K mg mb) {A' : Around} (F : AFit X (n + 1) f A') {p : Path} {st : St} {a : Addr} {vs : List V} {xs : List Str} {kvs : List V} {k : Path → V → St → Prop} {k' : V → St → Prop} (h : stU Γ r p st a vs xs kvs k) (hk : ∀ p v st, k p v st → k' v st) : TU prog w os₀ f A' a vs xs kvs st k' := by
  intro loc ρ s vals kvals Rr hR hv hkv hl q
  have d : A'.depth < X := Nat.lt_of_le_of_lt (by omega) F.d
  have u : A'.units < 10 * X := Nat.lt_of_le_of_lt (by omega) F.u
  unfold stU at h
  cases hsp : getNat a Γ.spec with
  | some sp =>
    rw [hsp] at h
    obtain ⟨hx, h⟩ := ef_ok h
    have hx := List.isEmpty_iff.mp hx
    subst hx
    have e : kvals = [] := List.eq_nil_of_length_eq_zero (hkv.length.trans hl.symm)
    subst e
    exact (O.spec a sp (getNat_mem hsp)).2 mg mb os₀ f hf A' F.frames F.handled d u _ _ _ h loc ρ s vals Rr hR hv fun v st' ρ' val s' g => q _ _ _ _ _ (hk _ _ _ g)
  | none =>
  rw [hsp] at h
  cases hspk : getNat a Γ.specK with
  | some ysp =>
    obtain ⟨ys, sp⟩ := ysp
    rw [hspk] at h
    obtain ⟨hx, h⟩ := ef_ok h
    have hx := sameNames_eq hx
    subst hx
    exact (O.specK a xs sp (getNat_mem hspk)).2 mg mb os₀ f hf A' F.frames F.handled d u _ _ _ _ h loc ρ s vals kvals Rr hR hv hkv hl fun v st' ρ' val s' g => q _ _ _ _ _ (hk _ _ _ g)
  | none =>
  rw [hspk] at h
  obtain ⟨i, hi, h9⟩ := sf_ok h
  obtain ⟨hmem, hf1, hf2, hf3⟩ := fnFind_ok hi
  subst hf1 hf3
  refine callR (O.fns i hmem) f hf F.frames F.handled (by unfold recursionLimit; omega) hR hv hkv hf2.symm hl.symm ?_
  intro f' f'ok hcs hdep hun _ ρ₁ s₁ le₁ hR₁ back
  refine ih.B f' ⟨f'ok, ?_, ?_⟩ (k' := fun fl _ st => retK (k' · st) fl) (by rw [hcs]; exact h9) (fun p fl _ st g => ?_) ρ₁ _ _ _ hR₁ fun fl loc' st₂ ρ' fv s' g le hR' hfl => ret_done q g (le₁.trans le) (back _ _ _ _ (le₁.trans le) hR') hfl
  · rw [hdep]; exact Nat.lt_of_le_of_lt (by omega) F.d
  · rw [hun]; exact Nat.lt_of_le_of_lt (by omega) F.u
  · cases fl with
    | next => exact hk _ _ _ g
    | ret v => exact hk _ _ _ g
    | _ => exact g
theorem handed_wp {A : Around} {E : Value → Shared → Prop} {Q : Value → Shared → Prop} {ρ : Lab} {v : V} {val : Value} {s : Shared} (hv : VR ρ v val) (hb : isBi v = false) (q : Q val s) : wpAny (model prog w) A (handedOut val) Q E s := by
  cases hv <;> first | exact wpAny_pure q | exact nomatch hb

theorem sound_Attr (O : Γ.Ok prog w K X) (ih : Sound prog w K mg mb os₀ X n r) (f : FD) (F : Fit K mg mb X (n + 1) f) {p : Path} {loc : Loc} {st : St} {ov : V} {name : Str} {k : Path → V → St → Prop} {k' : V → St → Prop} (h : stAttr Γ r p st ov name k) (hk : ∀ p v st, k p v st → k' v st)
    {ρ : Lab} {s : Shared} {Q : Value → Shared → Prop} {Ex : Value → Shared → Prop} {oval : Value} (hR : R w os₀ f.h₀ f.L f.outs loc st ρ s) (ho : VR ρ ov oval) (q : PE w os₀ f loc ρ k' Q) : wpAny (model prog w) f.A (getAttr oval name true) Q Ex s := by
  obtain ⟨⟨j, C, as⟩, e, h⟩ := sf_ok h
  obtain ⟨e, o, ho', e2⟩ := atO_ok e
  have e : ov = .ref j := e
  have ho' : getO j st.objs = some (.inst C as) := ho'.trans (congrArg some (instO_ok e2))
  subst e
  have h : (match Γ.isPlain C name with | true => _ | false => _) := h
  cases hp : Γ.isPlain C name with
  | true =>
    rw [hp] at h
    obtain ⟨v, hv, h⟩ := sf_ok h
    obtain ⟨l, h1, h2⟩ := isPlain_ok hp
    exact hR.getPlain F.ok.gd.inK ho' (O.plain C l h1 name h2) hv (nf_ok h).1 ho fun val s' hR' hv' => q _ _ _ _ _ (hk _ _ _ (nf_ok h).2) (.refl _) hR' hv'
  | false =>
    rw [hp] at h
    obtain ⟨fp, hfp, h⟩ := sf_ok h
    obtain ⟨l, h1, h2⟩ := get2_ok hfp
    have pr := O.prop C l h1 name fp h2
    obtain ⟨m, M, _⟩ := hR.fr
    obtain ⟨ns, pre, post, a, dx, nn, es, I⟩ := hR.inst ho' ho
    obtain ⟨pp, rest, g1, g2, g3, g4⟩ := pr.find
    have ho₂ := ho
    rw [I.e] at ho₂ ⊢
    refine get_prop M F.ok.gd.inK I.at_ pr.get pr.dict g1 g2 g3 g4 ?_
    refine ih.U f F.ok F.in1 (k' := fun v st => isBi v = false ∧ k' v st) h (fun p v st g => ⟨(nf_ok g).1, hk _ _ _ (nf_ok g).2⟩) loc ρ _ _ _ _ (hR.toks _ (Nat.le_succ _)) (.cons ho₂ .nil) .nil rfl fun v st' ρ' val s' g le hR' hv => ?_
    exact handed_wp hv g.1 (q _ _ _ _ _ g.2 le hR' hv)
end
end Mine
end
section
open PySem PySem.W PyProof.Rows PySem.Calls
set_option Elab.async false
set_option maxRecDepth 100000
set_option genSizeOf false
set_option genInjectivity false
namespace Mine

noncomputable def kwNames (kws : List Keyword) : List Str := kws.filterMap (·.arg)
theorem star_cons {e : Expr} {rest : List Expr} {env : Env} (h : notStar e = true) : starEach (e :: rest) env = (false, eval e env) :: starEach rest env := by
  cases e <;> first | rfl | exact absurd h Bool.false_ne_true
theorem star_plain {env : Env} {pos : Pos} {args : List Expr} : allPlain args = true → (backTo pos (starEach args env)).any (·.1) = false := by
  induction args with
  | nil => exact fun _ => rfl
  | cons e r ih =>
    intro h
    have h := Bool.and_eq_true_iff.mp h
    rw [star_cons h.1]
    exact ih h.2
theorem kw_cons {k : Keyword} {r : List Keyword} (h : kwPlain (k :: r) = true) : ∃ x e p, k = ⟨some x, e, p⟩ ∧ kwPlain r = true := by
  have h := Bool.and_eq_true_iff.mp (show (k.arg.isSome && kwPlain r) = true from h)
  obtain ⟨a, e, p⟩ := k
  cases a with
  | none => exact absurd h.1 Bool.false_ne_true
  | some x => exact ⟨x, e, p, rfl, h.2⟩
theorem kw_all {env : Env} {pos : Pos} {kws : List Keyword} : kwPlain kws = true → (backToKw pos (keywordEach kws env)).all (·.1.isSome) = true := by
  induction kws with
  | nil => exact fun _ => rfl
  | cons k r ih => intro h; obtain ⟨x, e, p, rfl, h⟩ := kw_cons h; exact ih h
theorem kw_none {env : Env} {pos : Pos} {kws : List Keyword} : kwPlain kws = true → (backToKw pos (keywordEach kws env)).any (·.1.isNone) = false := by
  induction kws with
  | nil => exact fun _ => rfl
  | cons k r ih => intro h; obtain ⟨x, e, p, rfl, h⟩ := kw_cons h; exact ih h
theorem kw_names {env : Env} {pos : Pos} {kws : List Keyword} : kwPlain kws = true → (backToKw pos (keywordEach kws env)).filterMap (·.1) = kwNames kws := by
  induction kws with
  | nil => exact fun _ => rfl
  | cons k r ih => intro h; obtain ⟨x, e, p, rfl, h⟩ := kw_cons h; exact congrArg (x :: ·) (ih h)
theorem swap_plain {value : Expr} {t : Option Expr} {l : Nat} {env : Env} (h : noComp value = true) : swapsWith value t l env = pure false := by
  cases value <;> first | rfl | exact absurd h Bool.false_ne_true
theorem let_str {base : Expr} {x : Str} {t : Tok} (r : Value) : letTemporaryGo base (.str x t) r = pure () := by
  cases base <;> rfl

section
variable (prog : Program) (w : World) (os₀ : Glo)
/-- arguments, by place and by name -/
noncomputable def PA (f : FD) (loc : Loc) (ρ : Lab) (K : List V → St → Prop) (Q : List Value → Shared → Prop) : Prop := ∀ vs st' ρ' vals s', K vs st' → LabLe ρ ρ' → R w os₀ f.h₀ f.L f.outs loc st' ρ' s' → VRs ρ' vs vals → Q vals s'
noncomputable def TA (f : FD) (pos : Pos) (args : List Expr) (loc : Loc) (st : St) (k : List V → St → Prop) : Prop :=
  ∀ ρ s Q Ex, R w os₀ f.h₀ f.L f.outs loc st ρ s → PA w os₀ f loc ρ k Q → wpAny (model prog w) f.A (spliced (backTo pos (starEach args f.env))) Q Ex s
noncomputable def TK (f : FD) (pos : Pos) (kws : List Keyword) (loc : Loc) (st : St) (k : List V → St → Prop) : Prop :=
  ∀ ρ s Q Ex, R w os₀ f.h₀ f.L f.outs loc st ρ s → PA w os₀ f loc ρ k Q → wpAny (model prog w) f.A (evalAll ((backToKw pos (keywordEach kws f.env)).map (·.2))) Q Ex s
end
section
variable {prog : Program} {w : World} {K : Frag} {mg mb : Str → Option Value} {os₀ : Glo} {Γ : Gam} {X n : Nat} {r : RunF}
theorem TA.nil {f : FD} {pos : Pos} {loc : Loc} {st : St} {k : List V → St → Prop} (h : k [] st) : TA prog w os₀ f pos [] loc st k := fun _ _ _ _ hR q => spliced_none (q _ _ _ _ _ h (.refl _) hR .nil)
theorem TA.cons {f : FD} {pos : Pos} {e : Expr} {es : List Expr} {loc : Loc} {st : St} {k : List V → St → Prop} (hn : notStar e = true) (h : TE prog w os₀ f e loc st fun v st => TA prog w os₀ f pos es loc st fun vs st => k (v :: vs) st) : TA prog w os₀ f pos (e :: es) loc st k :=
  fun ρ s _ Ex hR q => spliced_more (h ρ s _ Ex hR fun _ _ ρ₁ _ s₁ h₁ le hR₁ hv => h₁ ρ₁ s₁ _ Ex hR₁ fun _ _ _ _ _ hk le₂ hR₂ hvs => q _ _ _ _ _ hk (le.trans le₂) hR₂ (.cons (hv.mono le₂) hvs)) (star_cons hn)
theorem TK.nil {f : FD} {pos : Pos} {loc : Loc} {st : St} {k : List V → St → Prop} (h : k [] st) : TK prog w os₀ f pos [] loc st k := fun _ _ _ _ hR q => kwAll_nil (q _ _ _ _ _ h (.refl _) hR .nil)
theorem TK.cons {f : FD} {pos p : Pos} {x : Str} {e : Expr} {es : List Keyword} {loc : Loc} {st : St} {k : List V → St → Prop} (h : TE prog w os₀ f e loc st fun v st => TK prog w os₀ f pos es loc st fun vs st => k (v :: vs) st) : TK prog w os₀ f pos (⟨some x, e, p⟩ :: es) loc st k :=
  fun ρ s _ Ex hR q => kwAll_cons (h ρ s _ Ex hR fun _ _ ρ₁ _ s₁ h₁ le hR₁ hv => h₁ ρ₁ s₁ _ Ex hR₁ fun _ _ _ _ _ hk le₂ hR₂ hvs => q _ _ _ _ _ hk (le.trans le₂) hR₂ (.cons (hv.mono le₂) hvs))
theorem sound_A (ih : Sound prog w K mg mb os₀ X n r) {f : FD} (F : Fit K mg mb X n f) {loc : Loc} {pos : Pos} {args : List Expr} : ∀ {p : Path} {st : St} {k : Path → List V → St → Prop} {k' : List V → St → Prop}, stA r f.cs.names loc p st args k → (∀ p vs st, k p vs st → k' vs st) → TA prog w os₀ f pos args loc st k' := by
  induction args with
  | nil => exact fun h hk => .nil (hk _ _ _ h)
  | cons e es IH => exact fun h hk => .cons (ef_ok h).1 (ih.E f F (ef_ok h).2 fun p v st h => IH h fun p vs st g => hk _ _ _ g)
theorem sound_K (ih : Sound prog w K mg mb os₀ X n r) {f : FD} (F : Fit K mg mb X n f) {loc : Loc} {pos : Pos} {kws : List Keyword} : ∀ {p : Path} {st : St} {k : Path → List Str → List V → St → Prop} {k' : List V → St → Prop}, stK r f.cs.names loc p st kws k → (∀ p vs st, (kwNames kws).length = vs.length → k p (kwNames kws) vs st → k' vs st) → TK prog w os₀ f pos kws loc st k' := by
  induction kws with
  | nil => exact fun h hk => .nil (hk _ _ _ rfl h)
  | cons e es IH =>
    obtain ⟨a, e, kp⟩ := e
    cases a with
    | none => exact fun h => h.elim
    | some x => exact fun h hk => .cons (ih.E f F (show r.E _ _ _ _ _ _ from h) fun p v st h => IH h fun p vs st hl g => hk _ _ _ (congrArg (· + 1) hl) g)
/-- arguments of both kinds -/
noncomputable def TAK (prog : Program) (w : World) (os₀ : Glo) (f : FD) (pos : Pos) (args : List Expr) (kws : List Keyword) (loc : Loc) (st : St) (k : List V → List V → St → Prop) : Prop := match args with
  | [] => TK prog w os₀ f pos kws loc st fun kvs st => k [] kvs st
  | e :: es => TA prog w os₀ f pos (e :: es) loc st fun vs st => TK prog w os₀ f pos kws loc st fun kvs st => k vs kvs st
theorem sound_AK (ih : Sound prog w K mg mb os₀ X n r) {f : FD} (F : Fit K mg mb X n f) {loc : Loc} {pos : Pos} {args : List Expr} {kws : List Keyword} {p : Path} {st : St} {C : Path → St → List V → List Str → List V → Prop} {k' : List V → List V → St → Prop}
    (h : stA r f.cs.names loc p st args (fun p vs st => stK r f.cs.names loc p st kws (fun p xs kvs st => C p st vs xs kvs))) (hk : ∀ p vs kvs st, (kwNames kws).length = kvs.length → C p st vs (kwNames kws) kvs → k' vs kvs st) : TAK prog w os₀ f pos args kws loc st k' := by
  cases args with
  | nil => exact sound_K ih F h fun p kvs st hl g => hk _ _ _ _ hl g
  | cons e es => exact sound_A ih F h fun p vs st h => sound_K ih F h fun p kvs st hl g => hk _ _ _ _ hl g
/-- a call, its callee and the arguments known -/
theorem TAK.call {f : FD} (hf : f.Ok K mg mb) {loc : Loc} {pos : Pos} {args : List Expr} {kws : List Keyword} {st : St} {k : List V → List V → St → Prop} (hp : (allPlain args && kwPlain kws) = true) (h : TAK prog w os₀ f pos args kws loc st k)
    {ρ : Lab} {s : Shared} {Q : Value → Shared → Prop} {Ex : Value → Shared → Prop} {fv : Value} {first : List Value} (hk : ∀ h, K.In h → ∃ k, (k = Keeper.frame ∨ k = Keeper.machine ∨ k = Keeper.boundFrame) ∧ Looks (model prog w) h (keeperOf fv) k) (hR : R w os₀ f.h₀ f.L f.outs loc st ρ s)
    (q : ∀ vs kvs st' ρ' vals kvals s', k vs kvs st' → LabLe ρ ρ' → R w os₀ f.h₀ f.L f.outs loc st' ρ' s' → VRs ρ' vs vals → VRs ρ' kvs kvals → wpAny (model prog w) f.A (PySem.call fv (first ++ vals) ((kwNames kws).zip kvals)) Q Ex s') :
    wpAny (model prog w) f.A (callWith pos fv first (backTo pos (starEach args f.env)) (backToKw pos (keywordEach kws f.env))) Q Ex s := by
  have hp := Bool.and_eq_true_iff.mp hp
  refine callWith_of (by rw [star_plain hp.1, kw_none hp.2]; rfl) hk ?_
  cases args with
  | nil =>
    refine evalArgs_kw2_nil (kw_all hp.2) ?_
    rw [kw_names hp.2]
    exact h ρ s _ Ex hR fun kvs st₂ ρ₂ kvals s₂ hk₂ le₂ hR₂ hkv => ⟨hf.gd.inK.keeps hR₂.keep, q _ _ _ _ [] _ _ hk₂ le₂ hR₂ .nil hkv⟩
  | cons e rest =>
    refine evalArgs_kw2 (kw_all hp.2) ?_ (star_cons (Bool.and_eq_true_iff.mp (show (notStar e && allPlain rest) = true from hp.1)).1)
    rw [kw_names hp.2]
    exact h ρ s _ Ex hR fun vs st₁ ρ₁ vals s₁ h₁ le hR₁ hvs => h₁ ρ₁ s₁ _ Ex hR₁ fun kvs st₂ ρ₂ kvals s₂ hk₂ le₂ hR₂ hkv => ⟨hf.gd.inK.keeps hR₂.keep, q _ _ _ _ _ _ _ hk₂ (le.trans le₂) hR₂ (hvs.mono le₂) hkv⟩
theorem R.newInst {h₀ : Heap} {L : Addr} {outs : Fx} {loc : Loc} {st : St} {ρ : Lab} {s : Shared} (hR : R w os₀ h₀ L outs loc st ρ s) {m : Str → Option Value} (hm : ∀ x v, getA x loc = some v → LocR outs.cl m ρ x v)
    {ns : List (Addr × Obj)} (T : Tab w.params ρ (RestIs os₀ outs ρ.im) st.objs ns) (nd : (ns.map (·.1)).Nodup) {x dx C : Addr} {h' : Heap} {tk : Nat} (F : Fr h₀ L h' m) (N : News h₀ L h' ((x, instObj C dx) :: (dx, dictOf [] 0) :: ns)) (l1 : ∀ p ∈ ns, p.1 < dx) (l2 : dx < x) (htk : s.toks ≤ tk) :
    R w os₀ h₀ L outs loc { st with objs := (st.next, .inst C []) :: st.objs, next := st.next + 1 } (ρ.put st.next x) { s with heap := h', toks := tk } := by
  have le := Lab.put_le (a := x) (hR.free _ (Nat.le_refl _))
  have low : ∀ y, dx ≤ y → y ∉ ns.map (·.1) := fun y hy hm => by
    obtain ⟨p, hp, e⟩ := List.mem_map.mp hm
    exact absurd (l1 p hp) (Nat.not_lt.mpr (by rw [show p.1 = y from e]; exact hy))
  refine ⟨⟨m, F, fun y v e => (hm y v e).mono le⟩, ⟨_, N, Tab.cons (Lab.put_self ..) (.inst .nil) (T.mono le), List.nodup_cons.mpr ⟨fun h => ?_, List.nodup_cons.mpr ⟨low _ (Nat.le_refl _), nd⟩⟩⟩, Lab.put_free hR.free, hR.os, hR.gens, Nat.lt_of_lt_of_le hR.tok htk⟩
  exact (List.mem_cons.mp h).elim (fun e => absurd e (Nat.ne_of_gt l2)) (low _ (Nat.le_of_lt l2))
noncomputable def Callee.val : Callee → Value
  | .fn a => .ref a
  | .cls a _ => .ref a
  | .bi n => .builtin n
  | .ty n => .type n
  | .dq => .type "collections.deque"
theorem isFnA_ok (O : Γ.Ok prog w K X) {a : Addr} (h : isFnA Γ a = true) : KeepOk K a := by
  rcases Bool.or_eq_true_iff.mp h with h1 | h1
  · obtain ⟨i, hi⟩ := Option.isSome_iff_exists.mp h1
    have hi := fnKnown_ok hi
    exact hi.2 ▸ KeepOk.of (O.fns i hi.1).keep
  · rcases Bool.or_eq_true_iff.mp h1 with h1 | h1
    · obtain ⟨sp, hsp⟩ := Option.isSome_iff_exists.mp h1
      exact (O.spec a sp (getNat_mem hsp)).1
    · obtain ⟨sp, hsp⟩ := Option.isSome_iff_exists.mp h1
      exact (O.specK a sp.1 sp.2 (getNat_mem hsp)).1
/-- what is known of a callee -/
noncomputable def Callee.Good (Γ : Gam) : Callee → Prop
  | .cls a c => (a, c) ∈ Γ.cls
  | _ => True
theorem callee_ok (O : Γ.Ok prog w K X) {fv : V} {c : Callee} (e : calleeOf Γ fv = some c) {ρ : Lab} {fval : Value} (h : VR ρ fv fval) : c.val = fval ∧ c.Good Γ ∧ ∀ (M : Model) (h : Heap), K.In h → ∃ k, (k = Keeper.frame ∨ k = Keeper.machine ∨ k = Keeper.boundFrame) ∧ Looks M h (keeperOf fval) k := by
  have g := h.inv
  cases fv with
  | raw a =>
    have g : fval = .ref a := g
    subst g
    have e : (match isFnA Γ a with | true => some (Callee.fn a) | false => (match getNat a Γ.cls with | some c => some (.cls a c) | none => none)) = some c := e
    cases h1 : isFnA Γ a with
    | true => rw [h1] at e; exact Option.some.inj e ▸ ⟨rfl, trivial, isFnA_ok O h1⟩
    | false =>
      rw [h1] at e
      have e : (match getNat a Γ.cls with | some c => some (Callee.cls a c) | none => none) = some c := e
      cases h2 : getNat a Γ.cls with
      | none => rw [h2] at e; exact no' e
      | some d => rw [h2] at e; exact Option.some.inj e ▸ ⟨rfl, getNat_mem h2, KeepOk.of (O.cls a d.1 d.2 (getNat_mem h2)).1⟩
  | bi n =>
    have g : fval = .builtin n := g
    subst g
    exact Option.some.inj e ▸ ⟨rfl, trivial, fun _ _ _ => ⟨.machine, .inr (.inl rfl), Looks.of_pure rfl⟩⟩
  | ty n =>
    have g : fval = .type n := g
    subst g
    have e : (match decide (n = "collections.deque") with | true => some Callee.dq | false => some (.ty n)) = some c := e
    have k : ∀ (M : Model) (h : Heap), K.In h → ∃ k, (k = Keeper.frame ∨ k = Keeper.machine ∨ k = Keeper.boundFrame) ∧ Looks M h (keeperOf (.type n)) k := fun _ _ _ => ⟨.machine, .inr (.inl rfl), Looks.of_pure rfl⟩
    cases hd : decide (n = "collections.deque") with
    | true => rw [hd] at e; exact Option.some.inj e ▸ ⟨congrArg _ (of_decide_eq_true hd).symm, trivial, k⟩
    | false => rw [hd] at e; exact Option.some.inj e ▸ ⟨rfl, trivial, k⟩
  | _ => exact no' e
/-- a builtin or a type -/
theorem sound_Bi {f : FD} {X n : Nat} (F : Fit K mg mb X n f) (hX : X ≤ 900) {t : List (String × (List V → Option V))} {tS : List (String × (List V → St → (V → St → Prop) → Prop))} {c : Value} {nm : String} (ht : ∀ g, (nm, g) ∈ t → BiOk c g) (hS : ∀ sp, (nm, sp) ∈ tS → BiSpec prog w K X c sp)
    {p : Path} {loc : Loc} {st : St} {vs : List V} {k : Path → V → St → Prop} {k' : V → St → Prop} (h : stBi t tS nm p st vs k) (hk : ∀ p v st, k p v st → k' v st) {ρ : Lab} {s : Shared} {Q : Value → Shared → Prop} {Ex : Value → Shared → Prop} {vals : List Value} (hR : R w os₀ f.h₀ f.L f.outs loc st ρ s) (hvs : VRs ρ vs vals) (q : PE w os₀ f loc ρ k' Q) :
    wpAny (model prog w) f.A (call c vals) Q Ex s := by
  unfold stBi at h
  cases hv : apB t nm vs with
  | some v =>
    rw [hv] at h
    obtain ⟨g, hg, hv⟩ := apB_ok hv
    exact wpAny_with_toks (n := s.toks) (Nat.le_refl _) (ht g hg vs v hv ρ vals hvs prog w f.A _ _ s F.ok.handled (F.line hX) fun val h' tk hkk hval htk => q _ _ _ _ _ (hk _ _ _ h) (.refl _) (hR.grown hkk htk) hval)
  | none =>
    rw [hv] at h
    obtain ⟨sp, hsp, h⟩ := sf_ok h
    exact hS sp (getB_mem hsp) mg mb os₀ f F.ok F.dlt F.ult vs st _ h loc ρ s vals Q Ex hR hvs fun v st₂ ρ₂ val s₂ g => q _ _ _ _ _ (hk _ _ _ g)
theorem makeForm_ok {ρ : Lab} {vs : List V} {xs : List Str} {vals kvals : List Value} (h : makeForm true vs xs = true) (hv : VRs ρ vs vals) : ∃ v, vals = [v] ∧ xs.zip kvals = [] := by
  have h := Bool.and_eq_true_iff.mp (show ((one vs).isSome && xs.isEmpty) = true from h)
  obtain ⟨a, ha⟩ := Option.isSome_iff_exists.mp h.1
  rw [one_ok ha] at hv
  obtain ⟨x, ys, e, -, h2⟩ := hv.inv
  exact ⟨x, e.trans (congrArg _ (show ys = [] from h2.inv)), by rw [List.isEmpty_iff.mp h.2]; rfl⟩
theorem sound_New (hX : X ≤ 900) (O : Γ.Ok prog w K X) (ih : Sound prog w K mg mb os₀ X n r) {f : FD} (F : Fit K mg mb X (n + 1) f) {a : Addr} {c : Addr × Bool} (hc : (a, c) ∈ Γ.cls) {p : Path} {loc : Loc} {st : St} {vs kvs : List V} {xs : List Str} {k : Path → V → St → Prop} {k' : V → St → Prop} (h : stNew r p st a c vs xs kvs k) (hk : ∀ p v st, k p v st → k' v st)
    {ρ : Lab} {s : Shared} {Q : Value → Shared → Prop} {Ex : Value → Shared → Prop} {vals kvals : List Value} (hR : R w os₀ f.h₀ f.L f.outs loc st ρ s) (hvs : VRs ρ vs vals) (hkv : VRs ρ kvs kvals) (hl : xs.length = kvs.length) (q : PE w os₀ f loc ρ k' Q) : wpAny (model prog w) f.A (call (.ref a) vals (xs.zip kvals)) Q Ex s := by
  obtain ⟨hform, h⟩ := ef_ok h
  have hu := F.u
  obtain ⟨A'', a1, a2, a3, a4, mk⟩ := (O.cls a c.1 c.2 hc).2 mg mb f F.ok (by have := F.d; unfold recursionLimit; omega) (by unfold cLine; omega)
  obtain ⟨m, M, hm⟩ := hR.fr
  obtain ⟨ns, N, T, nd⟩ := hR.led
  refine mk prog w Ex Q s m ns _ _ (fun h1 => makeForm_ok (h1 ▸ hform) hvs) M N fun x dx h' tk htk F' N' l1 l2 => ?_
  have le := Lab.put_le (a := x) (hR.free _ (Nat.le_refl _))
  have hx := Lab.put_self ρ st.next x
  refine ih.U f F.ok ⟨a1, a2.trans F.ok.handled, by have := F.d; omega, by omega⟩ (k' := fun v st₂ => v = .none ∧ k' (.ref st.next) st₂) h (fun p v st g => ⟨isNone_ok (ef_ok g).1, hk _ _ _ (ef_ok g).2⟩) loc _ _ _ _ _ (hR.newInst hm T nd F' N' l1 l2 htk) (.cons (.ref hx) (hvs.mono le)) (hkv.mono le) hl ?_
  intro v st₂ ρ₂ val s₂ g le₂ hR₂ hv
  exact ⟨(show VRi ρ₂ .none val from g.1 ▸ hv.inv), q _ _ _ _ _ g.2 (le.trans le₂) hR₂ (.ref (le₂.of _ _ hx))⟩
theorem sound_Callee (hX : X ≤ 900) (O : Γ.Ok prog w K X) (ih : Sound prog w K mg mb os₀ X n r) {f : FD} (F : Fit K mg mb X (n + 1) f) {c : Callee} (hc : c.Good Γ) {p : Path} {loc : Loc} {st : St} {vs kvs : List V} {xs : List Str} {k : Path → V → St → Prop} {k' : V → St → Prop} (h : stCall Γ r p st c vs xs kvs k) (hk : ∀ p v st, k p v st → k' v st)
    {ρ : Lab} {s : Shared} {Q : Value → Shared → Prop} {Ex : Value → Shared → Prop} {vals kvals : List Value} (hR : R w os₀ f.h₀ f.L f.outs loc st ρ s) (hvs : VRs ρ vs vals) (hkv : VRs ρ kvs kvals) (hl : xs.length = kvs.length) (q : PE w os₀ f loc ρ k' Q) : wpAny (model prog w) f.A (call c.val vals (xs.zip kvals)) Q Ex s := by
  cases c with
  | fn a => exact wpAny_call (ih.U f F.ok F.here h hk loc ρ s _ _ _ hR hvs hkv hl q)
  | cls a c => exact sound_New hX O ih F hc h hk hR hvs hkv hl q
  | bi nm =>
    obtain ⟨hx, h⟩ := ef_ok h
    rw [List.isEmpty_iff.mp hx]
    exact sound_Bi F hX (O.bi nm) (O.biS nm) h hk hR hvs q
  | ty nm =>
    obtain ⟨hx, h⟩ := ef_ok h
    rw [List.isEmpty_iff.mp hx]
    exact sound_Bi F hX (O.ty nm) (O.tyS nm) h hk hR hvs q
  | dq =>
    obtain ⟨hx, h⟩ := ef_ok h
    obtain ⟨hv, h⟩ := ef_ok h
    rw [List.isEmpty_iff.mp hx]
    rw [List.isEmpty_iff.mp hv] at hvs
    rw [show vals = [] from hvs.inv]
    refine dq_make fun h' hkk ho => ?_
    obtain ⟨ρ₂, le₂, hx, hR₂⟩ := hR.new1 (tk := s.toks) (x := .dq) hkk ho (fun ρ'' _ => .dq) (Nat.le_refl _)
    exact q _ _ _ _ _ (hk _ _ _ h) le₂ hR₂ (.ref hx)
theorem sound_Call (hX : X ≤ 900) (O : Γ.Ok prog w K X) (ih : Sound prog w K mg mb os₀ X n r) {f : FD} (F : Fit K mg mb X (n + 1) f) {loc : Loc} {pos : Pos} {args : List Expr} {kws : List Keyword} {p : Path} {st : St} {fv : V} {k : Path → V → St → Prop} {k' : V → St → Prop}
    (hp : (allPlain args && kwPlain kws) = true) (h : sf (calleeOf Γ fv) fun c => stA r f.cs.names loc p st args (fun p vs st => stK r f.cs.names loc p st kws (fun p xs kvs st => stCall Γ r p st c vs xs kvs k))) (hk : ∀ p v st, k p v st → k' v st)
    {ρ : Lab} {s : Shared} {Q : Value → Shared → Prop} {Ex : Value → Shared → Prop} {fval : Value} (hR : R w os₀ f.h₀ f.L f.outs loc st ρ s) (hfv : VR ρ fv fval) (q : PE w os₀ f loc ρ k' Q) :
    wpAny (model prog w) f.A (callWith pos fval [] (backTo pos (starEach args f.env)) (backToKw pos (keywordEach kws f.env))) Q Ex s := by
  obtain ⟨c, hc, h⟩ := sf_ok h
  obtain ⟨e, g, hkp⟩ := callee_ok O hc hfv
  subst e
  exact (sound_AK ih F.pred (k' := fun vs kvs st => (kwNames kws).length = kvs.length ∧ ∃ p, stCall Γ r p st c vs (kwNames kws) kvs k) h fun p vs kvs st hl h => ⟨hl, p, h⟩).call F.ok hp (hkp _) hR fun vs kvs st' ρ' vals kvals s' ⟨hl, p, h⟩ le hR' hvs hkv => sound_Callee hX O ih F g h hk hR' hvs hkv hl (q.trans le)
end
end Mine
end
section
open PySem PySem.W PyProof.Rows PySem.Calls
set_option Elab.async false
set_option maxRecDepth 100000
set_option genSizeOf false
set_option genInjectivity false
namespace Mine
/-! lists as they lie -/
noncomputable def showO : O → Option (List V)
  | .nums ns => some (ns.map .int)
  | .list vs => some vs
  | _ => none
noncomputable def showV (st : St) (v : V) : Option (List V) := match refOf v with
  | some j => (match getO j st.objs with
    | some o => showO o
    | none => none)
  | none => itemsV v
/-- an object of the table by its value -/
structure ObjR (w : World) (h₀ : Heap) (L : Addr) (os₀ : Glo) (outs : Fx) (ρ : Lab) (h : Heap) (st : St) (j : Nat) (o : O) (ov : Value) (ns pre post l : List (Addr × Obj)) (a : Addr) : Prop where
  e : ov = .ref a
  N : News h₀ L h ns
  nd : (ns.map (·.1)).Nodup
  t : TAt w.params ρ (RestIs os₀ outs ρ.im) j st.objs ns o a l pre post
theorem OAt.shown {P : Params} {ρ : Lab} {o : O} {a : Addr} {l : List (Addr × Obj)} {vs : List V} (h : OAt P ρ o a l) (e : showO o = some vs) : ∃ xs n, l = [(a, listOf xs.toArray n)] ∧ VRs ρ vs xs ∧ vs.length ≤ sizeLine := by
  have g := h.inv
  cases o with
  | nums ns => obtain ⟨n, xs, e1, h1, h2⟩ := g; exact Option.some.inj e ▸ ⟨xs, n, e1, .ints h1, List.length_map (as := ns) _ ▸ h2⟩
  | list ns => obtain ⟨n, xs, e1, h1, h2⟩ := g; exact Option.some.inj e ▸ ⟨xs, n, e1, h1, h2⟩
  | _ => exact no' e
section
variable {prog : Program} {w : World} {os₀ : Glo} {h₀ : Heap} {L : Addr} {outs : Fx} {loc : Loc} {st : St} {ρ : Lab} {s : Shared} {A : Around} {E : Value → Shared → Prop}
theorem R.obj (r : R w os₀ h₀ L outs loc st ρ s) {j : Nat} {o : O} {ov : Value} (ho : getO j st.objs = some o) (hov : VR ρ (.ref j) ov) : ∃ ns pre post l a, ObjR w h₀ L os₀ outs ρ s.heap st j o ov ns pre post l a := by
  obtain ⟨ns, N, T, nd⟩ := r.led
  obtain ⟨a, l, pre, post, t⟩ := T.at_ ho
  obtain ⟨b, e, h2⟩ := hov.inv
  rw [t.of] at h2
  exact ⟨ns, pre, post, l, a, e.trans (congrArg _ (Option.some.inj h2).symm), N, nd, t⟩
theorem ObjR.at1 {j : Nat} {o : O} {ov : Value} {ns pre post : List (Addr × Obj)} {a : Addr} {x : Obj} {h : Heap} (X : ObjR w h₀ L os₀ outs ρ h st j o ov ns pre post [(a, x)] a) : h.get? a = some x := (X.N (a, x) (X.t.e ▸ List.mem_append_right _ (.head _))).1
theorem R.shown (r : R w os₀ h₀ L outs loc st ρ s) {v : V} {val : Value} {vs : List V} (hv : VR ρ v val) (e : showV st v = some vs) : ∃ a xs n, ListAt ρ s.heap val vs a xs n := by
  unfold showV at e
  cases h1 : refOf v with
  | none => rw [h1] at e; exact r.frozen hv e
  | some j =>
    rw [h1] at e
    rw [refOf_ok h1] at hv
    have e : (match getO j st.objs with | some o => showO o | none => none) = some vs := e
    cases h2 : getO j st.objs with
    | none => rw [h2] at e; exact no' e
    | some o =>
      rw [h2] at e
      obtain ⟨ns, pre, post, l, a, X⟩ := r.obj h2 hv
      obtain ⟨xs, n, el, h3, h4⟩ := X.t.at_.shown e
      subst el
      exact ⟨a, xs, n, X.e, X.at1, h3, h4⟩
theorem getN_get {α : Type} (d : α) {l : List α} : ∀ {i : Nat}, i < l.length → l[i]? = some (getN d i l) := by
  induction l with
  | nil => exact fun h => absurd h (Nat.not_lt_zero _)
  | cons a l ih =>
    intro i h
    cases i with
    | zero => rfl
    | succ i => exact ih (Nat.lt_of_succ_lt_succ h)
/-- an item -/
structure IdxAt (vs : List V) (v : V) (i : Int) : Prop where
  nn : 0 ≤ i
  lt : i.toNat < vs.length
  at_ : vs[i.toNat]? = some v
theorem idxL_ok {α : Type} {b : Bool} {i : Int} {d : α} {l : List α} {g : α → V} {k : V → Prop} (h : idxL b i d l (fun x => k (g x))) : ∃ v, IdxAt (l.map g) v i ∧ k v := by
  have h := whenC_ok h
  have hl : i.toNat < l.length := (Int.toNat_lt h.1.1).mpr h.1.2
  exact ⟨_, ⟨h.1.1, by rw [List.length_map]; exact hl, by rw [List.getElem?_map, getN_get d hl]; rfl⟩, h.2⟩
theorem idx_ok {b : Bool} {ov : V} {i : Int} {k : V → Prop} (h : stIdx b st ov i k) : ∃ vs v, showV st ov = some vs ∧ IdxAt vs v i ∧ k v := by
  cases ov with
  | tr vs => obtain ⟨v, h⟩ := idxL_ok (g := id) h; exact ⟨_, v, rfl, List.map_id vs ▸ h⟩
  | tri ns => obtain ⟨v, h⟩ := idxL_ok h; exact ⟨_, v, rfl, h⟩
  | trs ss => obtain ⟨v, h⟩ := idxL_ok h; exact ⟨_, v, rfl, h⟩
  | ref j =>
    obtain ⟨o, ho, h⟩ := sf_ok h
    have e : showV st (.ref j) = showO o := by
      show (match getO j st.objs with | some o => showO o | none => none) = _
      rw [ho]
    cases o with
    | nums ns => obtain ⟨v, h⟩ := idxL_ok h; exact ⟨_, v, e, h⟩
    | list vs => obtain ⟨v, h⟩ := idxL_ok (g := id) h; exact ⟨_, v, e, List.map_id vs ▸ h⟩
    | _ => exact h.elim
  | _ => exact h.elim
theorem sub_plain {i : Expr} {o v : Value} (h : plainIdx i = true) : subscripted i false o v = operate [o, v] (getItem o v) := by
  cases i <;> first | rfl | exact absurd h Bool.false_ne_true
theorem item_wp {vs : List V} {v : V} {value slice : Expr} {i : Int} {u : Tok} {ov : V} {oval : Value} {Q : Value → Shared → Prop} (r : R w os₀ h₀ L outs loc st ρ s) (hov : VR ρ ov oval) (hp : plainIdx slice = true)
    (e : showV st ov = some vs) (X : IdxAt vs v i) (q : ∀ val, VR ρ v val → Q val s) : wpAny (model prog w) A (subscriptTail value slice oval (.int i u)) Q E s := by
  obtain ⟨a, xs, n, Y⟩ := r.shown hov e
  obtain ⟨x, hx, hvx⟩ := Y.vr.get X.at_
  rw [Y.e]
  have hz := Y.sz
  have hl := X.lt
  have h0 := X.nn
  rw [sizeLine_eq] at hz
  exact tail_any (isList_of Y.at_).typeIs slot_list_getitem.lookup (wpAny_getItem_list (isList_of Y.at_) h0 (by omega) (List.getElem?_toArray.trans hx) (q x hvx)) (sub_plain hp)
/-! parts of a list -/
theorem cut_nat {α : Type} (l : List α) (a b : Nat) : (l.drop (min a l.length)).take (min b l.length - min a l.length) = (l.take b).drop a := by
  rw [List.drop_take]
  cases Nat.le_total a l.length with
  | inl h => rw [Nat.min_eq_left h, List.take_eq_take_iff, List.length_drop, ← Nat.sub_min_sub_right, Nat.min_assoc, Nat.min_self]
  | inr h => rw [Nat.min_eq_right h, List.drop_length, List.drop_eq_nil_of_le h, List.take_nil, List.take_nil]
theorem clip_nn {n : Nat} {i : Int} (h : 0 ≤ i) : clipAt n i = min i.toNat n := by
  have := clipAt_nat n i.toNat
  rw [Int.toNat_of_nonneg h] at this
  exact this
noncomputable def hiN (n : Nat) : Option Int → Nat
  | none => n
  | some a => a.toNat
theorem part_clip {n d : Nat} {o : Option Int} (h : nonneg o) (hd : min d n = d) : o.elim d (clipAt n) = min (hiN d o) n := by
  cases o with
  | none => exact hd.symm
  | some a => exact clip_nn h
theorem cutL_eq {α : Type} (lo hi : Option Int) (l : List α) : (l.take (hiN l.length hi)).drop (hiN 0 lo) = cutL lo hi l := by
  cases hi with
  | none => rw [show hiN l.length none = l.length from rfl, List.take_length]; cases lo <;> rfl
  | some b => cases lo <;> rfl
theorem pick_cut {xs : List Value} {lo hi : Option Int} (h1 : nonneg lo) (h2 : nonneg hi) : slicePick xs.toArray lo hi none = (cutL lo hi xs).toArray := by
  rw [slicePick_plain]
  refine congrArg List.toArray (Eq.trans ?_ (cutL_eq lo hi xs))
  rw [← cut_nat, ← part_clip h1 (Nat.zero_min _), ← part_clip h2 (Nat.min_self _)]
  rfl
theorem VRs.take {vs : List V} {xs : List Value} (h : VRs ρ vs xs) : ∀ n, VRs ρ (vs.take n) (xs.take n) := by
  induction h with
  | nil => intro n; cases n <;> exact .nil
  | cons a b ih => intro n; cases n with
    | zero => exact .nil
    | succ n => exact .cons a (ih n)
theorem VRs.drop {vs : List V} {xs : List Value} (h : VRs ρ vs xs) : ∀ n, VRs ρ (vs.drop n) (xs.drop n) := by
  induction h with
  | nil => intro n; cases n <;> exact .nil
  | cons a b ih => intro n; cases n with
    | zero => exact .cons a b
    | succ n => exact ih n
theorem VRs.cut {vs : List V} {xs : List Value} (h : VRs ρ vs xs) (lo hi : Option Int) : VRs ρ (cutL lo hi vs) (cutL lo hi xs) := by
  cases hi with
  | none => exact h.drop _
  | some b => exact (h.take _).drop _
theorem cut_map {α β : Type} (g : α → β) (lo hi : Option Int) (l : List α) : cutL lo hi (l.map g) = (cutL lo hi l).map g := by
  cases hi with
  | none => exact List.map_drop.symm
  | some b => exact ((congrArg _ List.map_take.symm).trans List.map_drop.symm)
theorem cut_len {α : Type} (lo hi : Option Int) (l : List α) : (cutL lo hi l).length ≤ l.length := by
  cases hi with
  | none => exact (List.drop_sublist _ _).length_le
  | some b => exact ((List.drop_sublist _ _).trans (List.take_sublist _ _)).length_le
theorem cut_mem {α : Type} {lo hi : Option Int} {l : List α} {a : α} (h : a ∈ cutL lo hi l) : a ∈ l := by
  cases hi with
  | none => exact List.mem_of_mem_drop h
  | some b => exact List.mem_of_mem_take (List.mem_of_mem_drop h)
/-- every frozen list holds closed values -/
theorem VR.closedItems {v : V} {val : Value} {vs : List V} (h : VR ρ v val) (e : itemsV v = some vs) : vs.all closedV = true := by
  have g := h.inv
  cases v with
  | tr us => obtain ⟨a, xs, n, -, -, -, h, -⟩ := g; exact Option.some.inj e ▸ h
  | tri us => exact Option.some.inj e ▸ closed_ints us
  | trs us => exact Option.some.inj e ▸ closed_strs us
  | _ => exact no' e
theorem cutV_ok {l v : V} {lo hi : Option Int} (h : cutV lo hi l = some v) : ∃ vs, itemsV l = some vs ∧ itemsV v = some (cutL lo hi vs) := by
  cases l with
  | tr us => exact Option.some.inj h ▸ ⟨_, rfl, rfl⟩
  | tri us => exact Option.some.inj h ▸ ⟨_, rfl, congrArg some (cut_map V.int lo hi us).symm⟩
  | trs us => exact Option.some.inj h ▸ ⟨_, rfl, congrArg some (cut_map V.str lo hi us).symm⟩
  | _ => exact no' h
theorem seenO_ok {o : O} {l : V} {vs : List V} (e : seenO o = some l) (h : itemsV l = some vs) : showO o = some vs ∧ vs.all closedV = true := by
  cases o with
  | nums ns => rw [← Option.some.inj e] at h; exact ⟨h, Option.some.inj h ▸ closed_ints ns⟩
  | list us =>
    have e : (match us.all closedV with | true => some (V.tr us) | false => none) = some l := e
    cases hc : us.all closedV with
    | false => rw [hc] at e; exact no' e
    | true => rw [hc] at e; rw [← Option.some.inj e] at h; exact ⟨h, Option.some.inj h ▸ hc⟩
  | _ => exact no' e
theorem seen_ok {ov l : V} (e : seenV st ov = some l) {val : Value} (hov : VR ρ ov val) {lo hi : Option Int} {v : V} (hc : cutV lo hi l = some v) : ∃ vs, showV st ov = some vs ∧ itemsV v = some (cutL lo hi vs) ∧ vs.all closedV = true := by
  obtain ⟨vs, h1, h2⟩ := cutV_ok hc
  unfold seenV at e
  unfold showV
  cases h3 : refOf ov with
  | none => rw [h3] at e; have e : ov = l := Option.some.inj e; subst e; exact ⟨vs, h1, h2, hov.closedItems h1⟩
  | some j =>
    rw [h3] at e
    have e : (match getO j st.objs with | some o => seenO o | none => none) = some l := e
    cases h4 : getO j st.objs with
    | none => rw [h4] at e; exact no' e
    | some o =>
      rw [h4] at e
      obtain ⟨h5, h6⟩ := seenO_ok e h1
      exact ⟨vs, by show (match getO j st.objs with | some o => showO o | none => none) = _; rw [h4]; exact h5, h2, h6⟩
theorem push_keeps {h : Heap} {o : Obj} : ∀ b u, h.get? b = some u → (h.push o).get? b = some u := fun _ _ e => Heap.get?_push_of_some _ e
noncomputable abbrev sliceObj (vl vu : Value) : Obj := { cls := .type "slice", data := .fields #[vl, vu, .none] }
/-- a part of a list is taken -/
theorem cut_wp (r : R w os₀ h₀ L outs loc st ρ s) {value : Expr} {lower upper : Option Expr} {sp : Pos} {ov v : V} {oval vl vu : Value} {lo hi : Option Int} {vs : List V} (hov : VR ρ ov oval) (e : showV st ov = some vs) (hv : itemsV v = some (cutL lo hi vs)) (hcl : vs.all closedV = true)
    (pl : IsPart vl lo) (pu : IsPart vu hi) (h1 : nonneg lo) (h2 : nonneg hi) {Q : Value → Shared → Prop} (q : ∀ ρ' val s', LabLe ρ ρ' → R w os₀ h₀ L outs loc st ρ' s' → VR ρ' v val → Q val s') :
    wpAny (model prog w) A (subscriptTail value (.Slice lower upper none sp) oval (.ref s.heap.objs.size)) Q E { s with heap := s.heap.push (sliceObj vl vu) } := by
  obtain ⟨a, xs, n, Y⟩ := r.shown hov e
  rw [Y.e]
  have hl := isList_of Y.at_
  refine tail_any (s := { s with heap := s.heap.push (sliceObj vl vu) }) (ops := [.ref s.heap.objs.size, .ref a]) (hl.push _).typeIs slot_list_getitem.lookup ?_ rfl
  refine wpAny_getItem_list_slice (hl.push _) (Heap.IsSliceOf.new ..) pl pu .none (fun h => nomatch h) ?_ (by rw [List.size_toArray, Y.vr.length]; exact Y.sz)
  show Q (.ref (s.heap.push _).objs.size) _
  rw [Heap.size_push]
  have ho : ((s.heap.push (sliceObj vl vu)).push { cls := .type "list", data := .seq (slicePick xs.toArray lo hi none) }).get? (s.heap.objs.size + 1) = some (listOf (cutL lo hi xs).toArray 0) := by
    have := Heap.get?_push_size (s.heap.push (sliceObj vl vu)) (o := { cls := .type "list", data := .seq (slicePick xs.toArray lo hi none) }) rfl
    rw [Heap.size_push] at this
    rw [this, pick_cut h1 h2]
  obtain ⟨ρ', le, hval, hR⟩ := r.newList (tk := s.toks) (fun b u e => push_keeps b u (push_keeps b u e)) (size_none (Nat.le_succ _)) ho (Y.vr.cut lo hi) hv (List.all_eq_true.mpr fun x hx => List.all_eq_true.mp hcl x (cut_mem hx)) (Nat.le_trans (cut_len _ _ _) Y.sz) (Nat.le_refl _)
  exact q ρ' _ _ le hR hval
end
end Mine
end
section
open PySem PySem.W PyProof.Rows PySem.Calls PySem.SeqAt
set_option Elab.async false
set_option maxRecDepth 100000
namespace Mine
section
variable {prog : Program} {w : World} {K : Frag} {os₀ : Glo} {h₀ : Heap} {L : Addr} {outs : Fx} {loc : Loc} {st : St} {ρ : Lab} {s : Shared} {A : Around} {E : Value → Shared → Prop}
/-- two lists put behind one another -/
structure AddAt (a b v : V) (n : Nat) (as bs : List V) : Prop where
  l : itemsV a = some as
  r : itemsV b = some bs
  v : itemsV v = some (as ++ bs)
  n : n = as.length + bs.length
theorem addL_ok {a b : V} {x : Nat × V} (h : addL a b = some x) : ∃ as bs, AddAt a b x.2 x.1 as bs := by
  unfold addL at h
  cases e1 : both triOf (fun x y => some (x.length + y.length, V.tri (x ++ y))) a b with
  | some y =>
    rw [e1] at h
    obtain ⟨u, v, h1, h2, h3⟩ := both_ok e1
    rw [triOf_ok h1, triOf_ok h2, ← Option.some.inj h, ← Option.some.inj h3]
    exact ⟨_, _, rfl, rfl, congrArg some List.map_append, by rw [List.length_map, List.length_map]⟩
  | none =>
    rw [e1] at h
    cases e2 : both trsOf (fun x y => some (x.length + y.length, V.trs (x ++ y))) a b with
    | some y =>
      rw [e2] at h
      obtain ⟨u, v, h1, h2, h3⟩ := both_ok e2
      rw [trsOf_ok h1, trsOf_ok h2, ← Option.some.inj h, ← Option.some.inj h3]
      exact ⟨_, _, rfl, rfl, congrArg some List.map_append, by rw [List.length_map, List.length_map]⟩
    | none =>
      rw [e2] at h
      obtain ⟨u, v, h1, h2, h3⟩ := both_ok (show both trOf (fun x y => some (x.length + y.length, V.tr (x ++ y))) a b = some x from h)
      rw [trOf_ok h1, trOf_ok h2, ← Option.some.inj h3]
      exact ⟨_, _, rfl, rfl, rfl, rfl⟩
/-- list + list -/
theorem addL_wp (r : R w os₀ h₀ L outs loc st ρ s) {a b : V} {v : Nat × V} (h : addL a b = some v) (hn : v.1 ≤ sizeLine) {va vb : Value} (ha : VR ρ a va) (hb : VR ρ b vb) {Q : Value → Shared → Prop}
    (q : ∀ ρ' val s', LabLe ρ ρ' → R w os₀ h₀ L outs loc st ρ' s' → VR ρ' v.2 val → Q val s') : wpAny (model prog w) A (binaryOp .Add va vb) Q E s := by
  obtain ⟨as, bs, Z⟩ := addL_ok h
  obtain ⟨x, xs, n1, X⟩ := r.frozen ha Z.l
  obtain ⟨y, ys, n2, Y⟩ := r.frozen hb Z.r
  have hz : (as ++ bs).length ≤ sizeLine := by rw [List.length_append, ← Z.n]; exact hn
  rw [X.e, Y.e]
  refine P.add_list X.at_ Y.at_ ?_ (by rw [List.size_toArray, List.size_toArray, X.vr.length, Y.vr.length, ← Z.n]; exact hn)
  have ho : (s.heap.push { cls := .type "list", data := .seq (xs.toArray ++ ys.toArray) }).get? s.heap.objs.size = some (listOf (xs ++ ys).toArray 0) := by
    rw [Heap.get?_push_size _ rfl, List.append_toArray]
  obtain ⟨ρ', le, hval, hR⟩ := r.newList (tk := s.toks) push_keeps (size_none (Nat.le_refl _)) ho (X.vr.append Y.vr) Z.v
    (by rw [List.all_append, ha.closedItems Z.l, hb.closedItems Z.r]; rfl) hz (Nat.le_refl _)
  exact q ρ' _ _ le hR hval
theorem IntsAre.app {xs ys : List Value} {ns ms : List Int} (h : IntsAre xs ns) (g : IntsAre ys ms) : IntsAre (xs ++ ys) (ns ++ ms) := by
  induction h with
  | nil => exact g
  | cons n t _ ih => exact .cons n t ih
theorem IntsAre.rep {xs : List Value} {ns : List Int} (h : IntsAre xs ns) (n : Nat) : IntsAre (List.replicate n xs).flatten (List.replicate n ns).flatten := by
  induction n with
  | zero => exact .nil
  | succ n ih => exact IntsAre.app h ih
theorem foldl_rep (xs : Array Value) (n : Nat) : ∀ acc : Array Value, (List.foldl (fun a b => a ++ b) acc (List.replicate n xs)) = acc ++ ((List.replicate n xs.toList).flatten).toArray := by
  induction n with
  | zero => exact fun acc => (Array.append_empty).symm
  | succ n ih =>
    intro acc
    rw [List.replicate_succ, List.foldl_cons, ih, Array.append_assoc, List.replicate_succ, List.flatten_cons, ← List.append_toArray]
theorem rep_nil (n : Nat) : (List.replicate n ([] : List Value)).flatten = [] := by
  induction n with
  | zero => rfl
  | succ n ih => exact ih
/-- list * n -/
theorem mul_wp (r : R w os₀ h₀ L outs loc st ρ s) {is : List Int} {i : Int} (h0 : 0 ≤ i) (hz : is.length * i.toNat ≤ sizeLine) {va vb : Value} (ha : VR ρ (.tri is) va) (hb : VR ρ (.int i) vb) {Q : Value → Shared → Prop}
    (q : ∀ ρ' val s', LabLe ρ ρ' → R w os₀ h₀ L outs loc ⟨(st.next, .nums (List.replicate i.toNat is).flatten) :: st.objs, st.next + 1⟩ ρ' s' → VR ρ' (.ref st.next) val → Q val s') (hi : i < 2 ^ 63) : wpAny (model prog w) A (binaryOp .Mult va vb) Q E s := by
  obtain ⟨x, xs, n1, X⟩ := r.frozen ha rfl
  obtain ⟨t, e⟩ := hb.inv
  rw [X.e, e]
  have hI := X.vr.to_ints
  obtain ⟨m, F, hm⟩ := r.fr
  obtain ⟨ns, N, T, nd⟩ := r.led
  refine PyProof.Rows.mul_list F N X.at_ (by omega) hi (by rw [List.size_toArray, hI.length, show (2 : Nat) ^ 24 = sizeLine from sizeLine_eq.symm]; exact hz) fun h' F' N' => ?_
  have e : (List.foldl (fun x1 x2 => x1 ++ x2) #[] (List.replicate (if xs.toArray.isEmpty = true then 0 else i.toNat) xs.toArray)) = ((List.replicate i.toNat xs).flatten).toArray := by
    rw [foldl_rep, Array.empty_append]
    cases xs with
    | nil => exact congrArg List.toArray (rep_nil i.toNat).symm
    | cons y ys => rfl
  rw [e] at N'
  obtain ⟨ρ', le, hof, hR⟩ := r.newAtN (tk := s.toks) (x := .nums (List.replicate i.toNat is).flatten) hm N T nd F' N' (size_none (Nat.le_refl _)) (fun ρ' _ => .nums (IntsAre.rep hI i.toNat) (by
    rw [List.length_flatten, List.map_replicate, List.sum_replicate_nat, Nat.mul_comm]; exact hz)) (Nat.le_refl _)
  exact q ρ' _ _ le hR (.ref hof)
/-! comparisons of lists -/
theorem numsOf_show {v : V} {ns : List Int} (h : numsOf st v = some ns) : showV st v = some (ns.map .int) := by
  cases v with
  | tri l => exact Option.some.inj h ▸ rfl
  | ref j =>
    have h : (match getO j st.objs with | some o => numsIn o | none => none) = some ns := h
    show (match getO j st.objs with | some o => showO o | none => none) = _
    cases e : getO j st.objs with
    | none => rw [e] at h; exact no' h
    | some o => rw [e] at h; rw [numsIn_ok h]; rfl
  | _ => exact no' h
theorem in_wp (r : R w os₀ h₀ L outs loc st ρ s) {v : V} {ns : List Int} {i : Int} {t : Tok} {val : Value} (h : numsOf st v = some ns) (hv : VR ρ v val) {Q : Value → Shared → Prop} (q : Q (.bool (decide (i ∈ ns))) s) : wpAny (model prog w) A (compareOp .In (.int i t) val) Q E s := by
  obtain ⟨a, xs, n, X⟩ := r.shown hv (numsOf_show h)
  rw [X.e]
  refine in_list_ints (isList_of X.at_) X.vr.to_ints ?_
  rw [List.any_beq', List.contains_eq_mem]; exact q
theorem eq_flt {b : UInt64} {t u : Tok} (ht : t ≠ 0) (hu : u ≠ 0) (hb : NoneBooked s.heap) (hc : (Float64.cmp b b == some Ordering.eq) = true) : EqAt A s (.float b t) (.float b u) true := fun prog w E Q hq => by
  unfold eqBool
  refine wpAny_holding ?_
  refine wpAny_ite_split (fun _ => wpAny_bind (wpAny_rule (wpAny_pure hq))) (fun _ => ?_)
  have fin : wpAny (model prog w) A (richCompare .Eq (.float b t) (.float b u)) (fun v s' => wpAny (model prog w) A (truthOfDropped v) Q E s') E s := by
    refine AutoFloatOps.eq_0 ?_
    rw [hc]
    exact wpAny_truthy_bool hq
  show wpAny _ _ (isSame (.float b t) (.float b u) >>= _) _ _ _
  refine wpAny_bind ?_
  show wpAny _ A (isSame.created (b == b && !Float64.isNaN b) t u) _ E s
  unfold isSame.created
  have key : ∀ c : Bool, wpAny (model prog w) A (if c = true then pure true else (do truthOfDropped (← richCompare .Eq (.float b t) (.float b u)))) Q E s := fun c => by
    cases c with
    | true => exact wpAny_pure hq
    | false => exact wpAny_bind fin
  refine wpAny_ite_split (fun h => ?_) (fun _ => ?_)
  · simp [ht, hu] at h
  refine wpAny_ite_split (fun h => wpAny_pure (key _)) (fun _ => ?_)
  refine wpAny_ite_split (fun h => wpAny_pure (key _)) (fun _ => ?_)
  refine wpAny_bind (wpAny_sharingNotTold_none hb ?_)
  rw [if_neg Bool.false_ne_true]
  refine wpAny_bind (wpAny_sharingNotTold_none hb ?_)
  rw [if_neg Bool.false_ne_true]
  exact wpAny_bind (wpAny_rule (wpAny_bind (wpAny_askSetting (wpAny_pure (key _)))))
/-- what is no list -/
theorem eqAt_flat (hb : NoneBooked s.heap) {A : Around} {v : V} {x y : Value} (hf : fineV 0 v) (hx : VR ρ v x) (hy : VR ρ v y) : EqAt A s x y true := by
  have g1 := hx.inv
  have g2 := hy.inv
  cases v with
  | none => rw [show x = .none from g1, show y = .none from g2]; exact .same _
  | bool b => rw [show x = .bool b from g1, show y = .bool b from g2]; exact .same _
  | int i =>
    obtain ⟨t, e1⟩ := g1
    obtain ⟨u, e2⟩ := g2
    rw [e1, e2]
    exact beq_self_eq_true i ▸ EqAt.int_int (A := A) (s := s) i t i u
  | str z =>
    obtain ⟨t, e1, _⟩ := g1
    obtain ⟨u, e2, _⟩ := g2
    rw [e1, e2]
    have h := EqAt.str_str (A := A) (s := s) z t z u
    simpa using h
  | flt b =>
    obtain ⟨t, e1, h1⟩ := g1
    obtain ⟨u, e2, h2⟩ := g2
    rw [e1, e2]
    exact eq_flt h1 h2 hb hf
  | _ => exact hf.elim
theorem all_true (n : Nat) : ((List.range n).all fun _ => true) = true := List.all_eq_true.mpr fun _ _ => rfl
theorem get_arr {xs : List Value} {j : Nat} {x : Value} (h : j < xs.toArray.size) (e : xs[j]? = some x) : xs.toArray[j] = x := (List.getElem?_eq_some_iff.mp e).2
/-- equal data compare equal -/
theorem eqAt_same (r : R w os₀ h₀ L outs loc st ρ s) (hb : NoneBooked s.heap) (n : Nat) : ∀ (A : Around) (v : V) (x y : Value), A.units + n < cLine → fineV n v → VR ρ v x → VR ρ v y → EqAt A s x y true := by
  induction n with
  | zero => exact fun A v x y _ hf hx hy => eqAt_flat hb hf hx hy
  | succ n ih =>
    intro A v x y hu hf hx hy
    have lists : ∀ vs, itemsV v = some vs → (∀ u ∈ vs, fineV n u) → EqAt A s x y true := by
      intro vs e hfv
      obtain ⟨a, xs, n1, X⟩ := r.frozen hx e
      obtain ⟨b, ys, n2, Y⟩ := r.frozen hy e
      rw [X.e, Y.e]
      by_cases hab : a = b
      · rw [hab]; exact .same _
      · have l1 := X.vr.length
        have key := RcAt.lists (A := A) (e := fun _ => true) (isList_of X.at_) (isList_of Y.at_) (by rw [List.size_toArray, List.size_toArray, l1, Y.vr.length]) (Nat.lt_of_le_of_lt (Nat.le_add_right _ _) hu) (fun j h1 h2 => by
          have hj : j < vs.length := l1 ▸ h1
          obtain ⟨x', hx', hvx'⟩ := X.vr.get (List.getElem?_eq_getElem hj)
          obtain ⟨y', hy', hvy'⟩ := Y.vr.get (List.getElem?_eq_getElem hj)
          rw [get_arr h1 hx', get_arr h2 hy']
          exact ih A.in1 _ _ _ (by show A.units + 1 + n < cLine; rw [Nat.add_assoc, Nat.add_comm 1]; exact hu) (hfv _ (List.getElem_mem hj)) hvx' hvy')
        rw [all_true] at key
        exact .of_refs hab key
    cases v with
    | tr vs => exact lists vs rfl hf
    | tri ns => exact lists _ rfl (fun u hu => by obtain ⟨i, -, e⟩ := List.mem_map.mp hu; subst e; cases n <;> trivial)
    | trs ss => exact lists _ rfl (fun u hu => by obtain ⟨i, -, e⟩ := List.mem_map.mp hu; subst e; cases n <;> trivial)
    | _ => exact (fun h => eqAt_flat hb h hx hy) hf
end
end Mine
end
section
open PySem PySem.W PyProof.Rows PySem.Calls PySem.SeqAt
set_option Elab.async false
set_option maxRecDepth 100000
namespace Mine
theorem li_seq : seqSlot? (.type "list") (dunderI "add") = pure (some (.builtin "list.__iadd__")) := PySem.seqSlot_of PySem.F.slot_list_iadd.lookup (by decide +kernel)
theorem li_fill : fillsInplaceSlot (.type "list") "add" true = pure false := by
  unfold fillsInplaceSlot
  show (typeLookup (.type "list") (dunderI "add") >>= fun fi => pure (fi.isSome && !isSeqSlot fi)) = pure false
  rw [PySem.F.slot_list_iadd.lookup]
  show (pure (!isSeqSlot (some (Value.builtin "list.__iadd__"))) : Sem Bool) = pure false
  rw [show isSeqSlot (some (Value.builtin "list.__iadd__")) = true by decide +kernel]; rfl
section
variable {prog : Program} {w : World} {K : Frag} {os₀ : Glo} {h₀ : Heap} {L : Addr} {outs : Fx} {loc : Loc} {st : St} {ρ : Lab} {s : Shared} {A : Around} {E : Value → Shared → Prop}
noncomputable def seqN (o : Obj) : Nat := match o.data with | .seq _ n => n | _ => 0
theorem seq_upd {h : Heap} {a : Addr} {xs : Array Value} {n : Nat} (g : Array Value → Array Value) (ho : h.get? a = some (listOf xs n)) : ∃ n', (h.update a (Obj.mapSeq g)).get? a = some (listOf (g xs) n') := by
  have := Heap.get?_update_self (Obj.mapSeq g) ho rfl
  exact ⟨seqN (Obj.mapSeq g (listOf xs n)), this⟩
/-- append -/
theorem app_core {a : Addr} {xs : List Value} {n : Nat} {val : Value} (ha : s.heap.get? a = some (listOf xs.toArray n)) (hz : xs.length + 1 ≤ sizeLine) {Q : Value → Shared → Prop}
    (q : ∀ n' h', h'.get? a = some (listOf (xs ++ [val]).toArray n') → (∀ b u, b ≠ a → s.heap.get? b = some u → h'.get? b = some u) → Q .none { s with heap := h' }) : wpAny (model prog w) A (call (.builtin "list.append") [.ref a, val]) Q E s := by
  refine call_meets slot_list_append ⟨_, ha, rfl⟩ entry_list_append (args_list_append _ _) (list_append a xs.toArray n val (Nat.le_of_succ_le hz)) ⟨ha, ?_⟩
  obtain ⟨n', ho'⟩ := seq_upd (·.push val) ha
  rw [List.push_toArray] at ho'
  exact q n' _ ho' fun b u hb e => (Heap.get?_update_other _ _ (Ne.symm hb)).trans e
theorem sound_App (r : R w os₀ h₀ L outs loc st ρ s) {j : Nat} {o : O} (ho : getO j st.objs = some o) {oval val : Value} {v : V} (hov : VR ρ (.ref j) oval) (hv : VR ρ v val) {p : Path} {k : Path → V → St → Prop} (h : stApp p st j v k o) {Q : Value → Shared → Prop}
    (q : ∀ st' s', k p .none st' → R w os₀ h₀ L outs loc st' ρ s' → Q .none s') : wpAny (model prog w) A (call (.builtin "list.append") [oval, val]) Q E s := by
  obtain ⟨ns, pre, post, l, a, X⟩ := r.obj ho hov
  rw [X.e]
  have hi := X.t.at_.inv
  cases o with
  | list us =>
    obtain ⟨n, xs, el, h1, h2⟩ := hi
    subst el
    have hz : (us ++ [v]).length ≤ sizeLine := List.length_append ▸ h.1
    exact app_core X.at1 (h1.length ▸ h.1) fun n' h' ho' hk => q _ _ h.2 (r.turn1 (tk := s.toks) X.t.e X.N X.nd (X.t.put _ _ (.list (h1.append (.cons hv .nil)) hz)) ho' hk (Nat.le_refl _))
  | nums is =>
    obtain ⟨n, xs, el, h1, h2⟩ := hi
    subst el
    obtain ⟨i, e, h⟩ := sf_ok h
    rw [asI_ok e] at hv
    obtain ⟨t, e⟩ := hv.inv
    subst e
    have hz : (is ++ [i]).length ≤ sizeLine := List.length_append ▸ h.1
    exact app_core X.at1 (h1.length ▸ h.1) fun n' h' ho' hk => q _ _ h.2 (r.turn1 (tk := s.toks) X.t.e X.N X.nd (X.t.put _ _ (.nums (IntsAre.app h1 (.cons i t .nil)) hz)) ho' hk (Nat.le_refl _))
  | _ => exact h.elim
/-- the place of the first -/
structure ErAt (xs : List Value) (ns : List Int) (i : Int) (j : Nat) : Prop where
  lt : j < xs.length
  here : isInt i xs[j] = true
  first : ∀ m (h : m < xs.length), m < j → isInt i xs[m] = false
  rest : IntsAre (xs.eraseIdx j) (ns.erase i)
theorem erase_idx {ns : List Int} {i : Int} {xs : List Value} (hx : IntsAre xs ns) : i ∈ ns → ∃ j, ErAt xs ns i j := by
  induction hx with
  | nil => exact fun h => nomatch h
  | @cons n t xs ns hxs ih =>
    intro hi
    by_cases hn : n = i
    · exact ⟨0, Nat.zero_lt_succ _, decide_eq_true hn, fun m _ hm => absurd hm (Nat.not_lt_zero _), by rw [hn, List.erase_cons_head]; exact hxs⟩
    · obtain ⟨j, J⟩ := ih ((List.mem_cons.mp hi).resolve_left fun e => hn e.symm)
      refine ⟨j + 1, Nat.succ_lt_succ J.lt, J.here, fun m h hm => ?_, by rw [List.erase_cons_tail (by simpa using hn)]; exact .cons n t J.rest⟩
      cases m with
      | zero => exact decide_eq_false hn
      | succ m => exact J.first m (Nat.lt_of_succ_lt_succ h) (Nat.lt_of_succ_lt_succ hm)
/-- remove -/
theorem rem_wp (r : R w os₀ h₀ L outs loc st ρ s) {j : Nat} {is : List Int} {i : Int} (ho : getO j st.objs = some (.nums is)) (hi : i ∈ is) {oval val : Value} (hov : VR ρ (.ref j) oval) (hv : VR ρ (.int i) val) {Q : Value → Shared → Prop}
    (q : ∀ s', R w os₀ h₀ L outs loc { st with objs := putO j (.nums (is.erase i)) st.objs } ρ s' → Q .none s') : wpAny (model prog w) A (call (.builtin "list.remove") [oval, val]) Q E s := by
  obtain ⟨ns, pre, post, l, a, X⟩ := r.obj ho hov
  obtain ⟨n, xs, el, hI, hz⟩ := X.t.at_.inv
  subst el
  obtain ⟨t, e⟩ := hv.inv
  rw [X.e, e]
  obtain ⟨p, P⟩ := erase_idx hI hi
  have ha := X.at1
  refine call_meets PySem.F.slot_list_remove ⟨_, ha, rfl⟩ PySem.F.entry_list_remove (PySem.F.args_list_remove_2 _ _)
    (MeetsSeq.list_remove a xs.toArray n (.int i t) (isInt i) (fun y hy => eq_isInt i t hI y (Array.mem_def.mp hy)) p P.lt P.here (fun m hm h => P.first m hm h) (by rw [List.size_toArray, hI.length]; exact hz)) ⟨ha, ?_⟩
  obtain ⟨n', ho'⟩ := seq_upd (fun xs => xs.eraseIdxIfInBounds p) ha
  rw [List.eraseIdxIfInBounds_toArray] at ho'
  exact q _ (r.turn1 (tk := s.toks) X.t.e X.N X.nd (X.t.put _ _ (.nums P.rest (Nat.le_trans List.length_erase_le hz))) ho' (fun b u hb e => (Heap.get?_update_other _ _ (Ne.symm hb)).trans e) (Nat.le_refl _))
/-- += -/
theorem iadd_wp (r : R w os₀ h₀ L outs loc st ρ s) {j : Nat} {is ms : List Int} (ho : getO j st.objs = some (.nums is)) (hz : is.length + ms.length ≤ sizeLine) {oval val : Value} (hov : VR ρ (.ref j) oval) (hv : VR ρ (.tri ms) val) {Q : Value → Shared → Prop}
    (q : ∀ s', R w os₀ h₀ L outs loc { st with objs := putO j (.nums (is ++ ms)) st.objs } ρ s' → Q oval s') : wpAny (model prog w) A (inplaceOp .Add oval val) Q E s := by
  obtain ⟨ns, pre, post, l, a, X⟩ := r.obj ho hov
  obtain ⟨n, xs, el, hI, hz1⟩ := X.t.at_.inv
  subst el
  obtain ⟨b, ys, n2, Y⟩ := r.frozen hv rfl
  have hJ := Y.vr.to_ints
  have ha := X.at1
  have e := X.e
  subst e
  rw [Y.e]
  have hz2 : (is ++ ms).length ≤ sizeLine := List.length_append ▸ hz
  have hsz : xs.toArray.size + ys.toArray.size ≤ sizeLine := by rw [List.size_toArray, List.size_toArray, hI.length, hJ.length]; exact hz
  unfold inplaceOp
  refine wpAny_holding ?_
  have hTa : s.TypeIs (.ref a) "list" := ⟨_, ha, rfl⟩
  have hTb : s.TypeIs (.ref b) "list" := ⟨_, Y.at_, rfl⟩
  refine wpAny_bind (wpAny_typeOf hTa (wpAny_bind (wpAny_of_eq li_fill ?_)))
  show wpAny _ A (if false = true then _ else _) Q E s
  rw [if_neg Bool.false_ne_true]
  refine wpAny_bind (wpAny_binaryOp1_none (nm := "add") hTa hTb noFill_list_add ?_)
  refine wpAny_bind (wpAny_of_eq li_seq ?_)
  refine wpAny_bind (wpAny_rule ?_)
  have hs0 : ¬(!xs.toArray.isEmpty && Builtin.List.listTooLong (xs.toArray.size + ys.toArray.size)) = true := by
    rw [show Builtin.List.listTooLong (xs.toArray.size + ys.toArray.size) = false from decide_eq_false (by omega), Bool.and_false]
    exact Bool.false_ne_true
  refine call_meets PySem.F.slot_list_iadd hTa PySem.F.entry_list_iadd (PySem.F.args_list_iadd_2 _ _) (AutoSeq1.list___iadd___list_list_0 a xs.toArray n b ys.toArray n2 hs0 (by omega) (by omega)) ⟨ha, Y.at_, ?_⟩
  obtain ⟨n', ho'⟩ := seq_upd (fun x => x ++ ys.toArray) ha
  rw [List.append_toArray] at ho'
  exact q _ (r.turn1 (tk := s.toks) X.t.e X.N X.nd (X.t.put _ _ (.nums (IntsAre.app hI hJ) hz2)) ho' (fun b u hb e => (Heap.get?_update_other _ _ (Ne.symm hb)).trans e) (Nat.le_refl _))
theorem IntsAre.set {xs : List Value} {ns : List Int} (h : IntsAre xs ns) : ∀ (i : Nat) (v : Int) (t : Tok), IntsAre (xs.set i (.int v t)) (ns.set i v) := by
  induction h with
  | nil => intro i v t; exact .nil
  | cons n u h ih =>
    intro i v t
    cases i with
    | zero => exact .cons v t h
    | succ i => exact .cons n u (ih i v t)
/-- xs[i] = v -/
theorem set_wp (r : R w os₀ h₀ L outs loc st ρ s) {j : Nat} {is : List Int} {i v : Int} {t : Tok} (ho : getO j st.objs = some (.nums is)) (h0 : 0 ≤ i) (hi : i < (is.length : Int)) {oval val : Value} (hov : VR ρ (.ref j) oval) (hv : VR ρ (.int v) val) {Q : Unit → Shared → Prop}
    (q : ∀ s', R w os₀ h₀ L outs loc { st with objs := putO j (.nums (is.set i.toNat v)) st.objs } ρ s' → Q () s') : wpAny (model prog w) A (setItem oval (.int i t) val) Q E s := by
  obtain ⟨ns, pre, post, l, a, X⟩ := r.obj ho hov
  obtain ⟨n, xs, el, hI, hz⟩ := X.t.at_.inv
  subst el
  obtain ⟨u, e⟩ := hv.inv
  rw [X.e, e]
  have hz1 := hz
  rw [sizeLine_eq] at hz1
  refine ki_setAt X.at1 h0 (by omega) (by rw [List.size_toArray, hI.length]; omega) ?_
  obtain ⟨n', ho'⟩ := seq_upd (·.setIfInBounds i.toNat (.int v u)) X.at1
  rw [List.setIfInBounds_toArray] at ho'
  exact q _ (r.turn1 (tk := s.toks) X.t.e X.N X.nd (X.t.put _ _ (.nums (IntsAre.set hI _ _ _) (by rw [List.length_set]; exact hz))) ho' (fun b u hb e => (Heap.get?_update_other _ _ (Ne.symm hb)).trans e) (Nat.le_refl _))
end
end Mine
end
section
open PySem PySem.W PyProof.Rows PySem.Calls PySem.SeqAt
set_option Elab.async false
set_option maxRecDepth 100000
set_option genSizeOf false
set_option genInjectivity false
namespace Mine

theorem form_ok {env : Env} {pos : Pos} {args : List Expr} {kws : List Keyword} (hp : (allPlain args && kwPlain kws) = true) (hn : args.length + kws.length + 1 ≤ 29) :
    methodCallForm (args.length + kws.length) (backTo pos (starEach args env)) (backToKw pos (keywordEach kws env)) = true := by
  have hp := Bool.and_eq_true_iff.mp hp
  unfold methodCallForm
  refine Bool.and_eq_true_iff.mpr ⟨Bool.and_eq_true_iff.mpr ⟨?_, kw_all hp.2⟩, decide_eq_true ?_⟩
  · have h := star_plain (env := env) (pos := pos) hp.1
    rw [List.all_eq_not_any_not]
    simp only [Bool.not_not]
    rw [h]; rfl
  · split <;> omega
theorem meth_call {M : Model} {A : Around} {E : Value → Shared → Prop} {s : Shared} {env : Env} {o : Expr} {name : Str} {ap pos : Pos} {args : List Expr} {kws : List Keyword} {Q : Value → Shared → Prop}
    (hp : (allPlain args && kwPlain kws) = true) (hb : plainBase o = true) (hl : ap.endLine = pos.line) (hn : args.length + kws.length + 1 ≤ 29)
    (h : wpAny M A (eval o env) (fun ov s₁ => wpAny M A (getMethod ov name (do return (← importBound o env).getD true)) (fun fx s₂ => wpAny M A (callWith pos fx.1 fx.2 (backTo pos (starEach args env)) (backToKw pos (keywordEach kws env))) Q E s₂) E s₁) E s) :
    wpAny M A (eval (.Call (.Attribute o name ap) args kws pos) env) Q E s := by
  have e1 : attributeBase o name env (eval o env) = eval o env := by cases o <;> first | rfl | exact absurd hb Bool.false_ne_true
  show wpAny M A (do
      let ov ← attributeBase o name env (eval o env)
      standAt ap.atName
      methodCall o name ap pos env ov (args.length + kws.length) (backTo pos (starEach args env)) (backToKw pos (keywordEach kws env))) Q E s
  rw [e1]
  refine wpAny_bind (wpAny_mono h (fun ov s₁ h₁ => wpAny_bind (wpAny_standAt ?_)) fun _ _ x => x)
  unfold methodCall
  rw [form_ok hp hn]
  refine wpAny_bind (wpAny_holding (wpAny_mono h₁ (fun fx s₂ h₂ => ?_) fun _ _ x => x))
  have e3 : methodCallPos true o env ap pos = pure pos := by
    unfold methodCallPos
    rw [hl, show (!true || pos.line == pos.line) = true by rw [beq_self_eq_true]; rfl]
    rfl
  show wpAny M A (methodCallPos true o env ap pos >>= _) Q E s₂
  rw [e3]
  exact wpAny_bind (wpAny_pure h₂)
theorem attr_eval {prog : Program} {w : World} {A : Around} {E : Value → Shared → Prop} {s : Shared} {env : Env} {o : Expr} {name : Str} {pos : Pos} {Q : Value → Shared → Prop} (hb : plainBase o = true)
    (h : wpAny (model prog w) A (eval o env) (fun ov s₁ => wpAny (model prog w) A (getAttr ov name true) Q E s₁) E s) : wpAny (model prog w) A (eval (.Attribute o name pos) env) Q E s := by
  refine Attribute_any_ h ?_
  cases o <;> first | rfl | exact absurd hb Bool.false_ne_true
theorem noSet_marks {op : CmpOp} {e : Expr} (h : noSet e = true) : behindInMarks op e = false := by
  cases e <;> first | rfl | exact absurd h Bool.false_ne_true
theorem str_fit {x : Str} (h : x.length ≤ sizeLine) : ¬ (x.length : Int) ≥ 2 ^ 63 := by
  rw [sizeLine_eq] at h
  omega

section
variable {prog : Program} {w : World} {K : Frag} {mg mb : Str → Option Value} {os₀ : Glo} {Γ : Gam} {X n : Nat} {r : RunF}

theorem truth_sound {h₀ : Heap} {L : Addr} {outs : Fx} {loc : Loc} {st : St} {v : V} {c : Bool} (e : truthV st v = some c) {ρ : Lab} {val : Value} (hv : VR ρ v val) {A : Around} {E : Value → Shared → Prop} {s : Shared} (hR : R w os₀ h₀ L outs loc st ρ s) {Q : Bool → Shared → Prop} (q : ∀ tk, s.toks ≤ tk → Q c { s with toks := tk }) : wpAny (model prog w) A (truthy val) Q E s := by
  refine wpAny_with_toks (n := s.toks) (Nat.le_refl _) ?_
  have g := hv.inv
  cases v with
  | none => rw [show val = .none from g]; have e := Option.some.inj e; subst e; exact truthy_none (q s.toks)
  | bool b => rw [show val = .bool b from g]; have e := Option.some.inj e; subst e; exact wpAny_truthy_bool (q s.toks)
  | int i => obtain ⟨t, g⟩ := g; rw [g]; have e := Option.some.inj e; subst e; exact truthy_int (q s.toks)
  | str x => obtain ⟨t, g, h⟩ := g; rw [g]; have e := Option.some.inj e; subst e; exact PySem.P.truthy_str (str_fit h) (q _)
  | ref j =>
    have e : (match getO j st.objs with | some o => (match o with | .dq => some false | .list vs => some (!vs.isEmpty) | _ => none) | none => none) = some c := e
    cases ho : getO j st.objs with
    | none => rw [ho] at e; exact no' e
    | some o =>
      rw [ho] at e
      obtain ⟨ns, pre, post, l, a, X⟩ := hR.obj ho hv
      have hi := X.t.at_.inv
      cases o with
      | dq =>
        have hi : l = _ := hi
        subst hi
        rw [X.e]
        have e := Option.some.inj e
        subst e
        exact dq_false X.at1 (q _)
      | list vs =>
        obtain ⟨n, xs, el, h1, h2⟩ := hi
        subst el
        have hI := isList_of X.at1
        rw [X.e]
        refine wpAny_truthy_list hI (by rw [List.size_toArray, h1.length]; exact Int.lt_of_le_of_lt (Int.ofNat_le.mpr (sizeLine_eq ▸ h2)) (by decide)) ?_
        rw [show xs.toArray.isEmpty = vs.isEmpty by cases h1 <;> rfl]
        have e := Option.some.inj e
        subst e
        exact q _
      | _ => exact no' e
  | _ => exact no' e
theorem binI_sound {op : Operator} {a b : Int} {t u : Tok} {x : Option Prop × V} (e : binI op a b = some x) (hc : holdsO x.1) {ρ : Lab} {A : Around} {E : Value → Shared → Prop} {s : Shared} (ht : 0 < s.toks) {Q : Value → Shared → Prop}
    (q : ∀ val tk, s.toks ≤ tk → VR ρ x.2 val → Q val { s with toks := tk }) : wpAny (model prog w) A (binaryOp op (.int a t) (.int b u)) Q E s := by
  cases op with
  | Add => have e := Option.some.inj e; subst e; exact add_int (q _ _ (Nat.le_succ _) (.int _ _))
  | Sub => have e := Option.some.inj e; subst e; exact sub_int (q _ _ (Nat.le_succ _) (.int _ _))
  | Mult => have e := Option.some.inj e; subst e; exact PyProof.Rows.mul_int (q _ _ (Nat.le_succ _) (.int _ _)) hc
  | FloorDiv =>
    have e : (match decide (b = 0) || decide (1000 < b.natAbs) with | true => none | false => some ((none : Option Prop), V.int (a.fdiv b))) = some x := e
    cases hb0 : decide (b = 0) || decide (1000 < b.natAbs) with
    | true => rw [hb0] at e; exact no' e
    | false =>
      rw [hb0] at e
      have e := Option.some.inj e
      subst e
      have hb0 := Bool.or_eq_false_iff.mp hb0
      exact PyProof.Rows.floordiv_int (of_decide_eq_false hb0.1) (q _ _ (Nat.le_succ _) (.int _ _)) (.inl (PyProof.noPylong_small (by have := of_decide_eq_false hb0.2; omega)))
  | Mod =>
    have e : (match decide (b = 0) with | true => none | false => some ((none : Option Prop), V.int (a.fmod b))) = some x := e
    cases hb0 : decide (b = 0) with
    | true => rw [hb0] at e; exact no' e
    | false => rw [hb0] at e; have e := Option.some.inj e; subst e; exact mod_int' (of_decide_eq_false hb0) (q _ _ (Nat.le_succ _) (.int _ _))
  | Div =>
    have e : (match decide (b = 0) with | true => none | false => some (some (Float64.isInf (Float64.ofFrac (decide (a < 0) != decide (b < 0)) a.natAbs b.natAbs) = false), V.flt (Float64.ofFrac (decide (a < 0) != decide (b < 0)) a.natAbs b.natAbs))) = some x := e
    cases hb0 : decide (b = 0) with
    | true => rw [hb0] at e; exact no' e
    | false =>
      rw [hb0] at e
      have e := Option.some.inj e
      subst e
      exact AutoIntOps.truediv_2 (beq_eq_false_iff_ne.mpr (of_decide_eq_false hb0) ▸ Bool.false_ne_true) (by rw [show Float64.isInf _ = false from hc]; decide) (q _ _ (Nat.le_succ _) (.flt _ _ (Nat.ne_of_gt ht)))
  | _ => exact no' e
/-- the operands of binV -/
theorem binV_ok {op : Operator} {a b : V} {x : Option Prop × V} (e : binV op a b = some x) {ρ : Lab} {va vb : Value} (ha : VR ρ a va) (hb : VR ρ b vb) :
    (∃ i t j u, va = .int i t ∧ vb = .int j u ∧ binI op i j = some x) ∨ ∃ y t z u, va = .str y t ∧ vb = .str z u ∧ op = .Add ∧ x = (some (y.length + z.length ≤ sizeLine), .str (y ++ z)) := by
  unfold binV at e
  cases h : both asI (binI op) a b with
  | some y =>
    rw [h] at e
    obtain ⟨i, j, h1, h2, h3⟩ := both_ok h
    rw [asI_ok h1] at ha
    rw [asI_ok h2] at hb
    obtain ⟨t, e1⟩ := ha.inv
    obtain ⟨u, e2⟩ := hb.inv
    exact .inl ⟨i, t, j, u, e1, e2, h3.trans e⟩
  | none =>
    rw [h] at e
    obtain ⟨y, z, h1, h2, h3⟩ := both_ok (show both asS (binS op) a b = some x from e)
    rw [asS_ok h1] at ha
    rw [asS_ok h2] at hb
    obtain ⟨t, e1, _⟩ := ha.inv
    obtain ⟨u, e2, _⟩ := hb.inv
    unfold binS at h3
    cases h4 : isAdd op with
    | false => rw [h4] at h3; exact no' h3
    | true => rw [h4] at h3; exact .inr ⟨y, t, z, u, e1, e2, isAdd_ok h4, (Option.some.inj h3).symm⟩
theorem app_fit {y z : Str} (h : y.length + z.length ≤ sizeLine) : (y ++ z).length ≤ sizeLine := Str.length_append .. ▸ h
theorem bin_sound {op : Operator} {a b : V} {x : Option Prop × V} (e : binV op a b = some x) (hc : holdsO x.1) {ρ : Lab} {va vb : Value} (ha : VR ρ a va) (hb : VR ρ b vb) {A : Around} {E : Value → Shared → Prop} {s : Shared} (ht : 0 < s.toks) {Q : Value → Shared → Prop}
    (q : ∀ val tk, s.toks ≤ tk → VR ρ x.2 val → Q val { s with toks := tk }) : wpAny (model prog w) A (binaryOp op va vb) Q E s := by
  rcases binV_ok e ha hb with ⟨i, t, j, u, e1, e2, e⟩ | ⟨y, t, z, u, e1, e2, e3, e9⟩
  · rw [e1, e2]; exact binI_sound e hc ht q
  · subst e1 e2 e3 e9
    exact wpAny_with_toks (n := s.toks) (Nat.le_refl _) (PyProof.Rows.add_str (fun t' tk htk => q _ _ htk (.str _ _ (app_fit hc))) hc)
theorem iadd_sound {a b : V} {x : Option Prop × V} (e : binV .Add a b = some x) (hc : holdsO x.1) {ρ : Lab} {va vb : Value} (ha : VR ρ a va) (hb : VR ρ b vb) {A : Around} {E : Value → Shared → Prop} {s : Shared} {Q : Value → Shared → Prop}
    (q : ∀ val tk, s.toks ≤ tk → VR ρ x.2 val → Q val { s with toks := tk }) : wpAny (model prog w) A (inplaceOp .Add va vb) Q E s := by
  rcases binV_ok e ha hb with ⟨i, t, j, u, e1, e2, e⟩ | ⟨y, t, z, u, e1, e2, e3, e9⟩
  · have e := Option.some.inj (show some ((none : Option Prop), V.int (i + j)) = some x from e)
    subst e1 e2 e
    exact iadd_int (q _ _ (Nat.le_succ _) (.int _ _))
  · subst e1 e2 e9
    exact wpAny_with_toks (n := s.toks) (Nat.le_refl _) (PyProof.Rows.iadd_str (fun t' tk htk => q _ _ htk (.str _ _ (app_fit hc))) hc)
section
variable {f : FD} {loc : Loc} {st : St} {ρ : Lab} {s : Shared} {A : Around} {E : Value → Shared → Prop} {Q : Value → Shared → Prop}
/-- a binary operation, lists too -/
theorem stBin0_sound {op : Operator} {a b : V} {k k' : V → St → Prop} (h : stBin0 st op a b k) (hk : ∀ v st, k v st → k' v st) (hR : R w os₀ f.h₀ f.L f.outs loc st ρ s) {va vb : Value} (ha : VR ρ a va) (hb : VR ρ b vb) (q : PE w os₀ f loc ρ k' Q) : wpAny (model prog w) A (binaryOp op va vb) Q E s := by
  obtain ⟨x, hx, h⟩ := sf_ok h
  have h := andO_ok h
  exact bin_sound hx h.1 ha hb hR.tok fun val tk htk hval => q _ _ _ _ _ (hk _ _ h.2) (.refl _) (hR.toks tk htk) hval
theorem stBin_sound {op : Operator} {a b : V} {k k' : V → St → Prop} (h : stBin st op a b k) (hk : ∀ v st, k v st → k' v st) (hR : R w os₀ f.h₀ f.L f.outs loc st ρ s) {va vb : Value} (ha : VR ρ a va) (hb : VR ρ b vb) (q : PE w os₀ f loc ρ k' Q) : wpAny (model prog w) A (binaryOp op va vb) Q E s := by
  unfold stBin at h
  cases hm : isMult op with
  | true =>
    rw [hm] at h
    have e := isMult_ok hm
    subst e
    have h : stMul st a b k := h
    unfold stMul at h
    cases ht : triOf a with
    | none => rw [ht] at h; exact stBin0_sound h hk hR ha hb q
    | some is =>
      rw [ht] at h
      obtain ⟨i, hi, h⟩ := sf_ok h
      rw [triOf_ok ht] at ha
      rw [asI_ok hi] at hb
      exact mul_wp hR h.1.1.1 h.1.2 ha hb (fun ρ' val s' le hR' hval => q _ _ _ _ _ (hk _ _ h.2) le hR' hval) h.1.1.2
  | false =>
    rw [hm] at h
    have h : (match isAdd op with | true => stAdd st a b k | false => stBin0 st op a b k) := h
    cases hd : isAdd op with
    | false => rw [hd] at h; exact stBin0_sound h hk hR ha hb q
    | true =>
      rw [hd] at h
      have e := isAdd_ok hd
      subst e
      have h : stAdd st a b k := h
      unfold stAdd at h
      cases ht : addL a b with
      | none => rw [ht] at h; exact stBin0_sound h hk hR ha hb q
      | some x => rw [ht] at h; exact addL_wp hR ht h.1 ha hb fun ρ' val s' le hR' hval => q _ _ _ _ _ (hk _ _ h.2) le hR' hval
theorem part_ok {a : V} {va : Value} {lo : Option Int} (hv : VR ρ a va) (e : partV a = some lo) : IsPart va lo := by
  cases a with
  | none => rw [show va = .none from hv.inv]; exact Option.some.inj e ▸ .none
  | int i => obtain ⟨t, e1⟩ := hv.inv; rw [e1]; exact Option.some.inj e ▸ .int _ _
  | _ => exact no' e
theorem part_int {va : Value} {i : Int} (p : IsPart va (some i)) : ∃ t, va = .int i t := by
  cases p; exact ⟨_, rfl⟩
theorem cut_sound {b : Bool} {ov a c : V} {k : V → Prop} {k' : V → St → Prop} (h : stCut b st ov a c k) (hk : ∀ v, k v → k' v st) (hR : R w os₀ f.h₀ f.L f.outs loc st ρ s) {value : Expr} {lower upper : Option Expr} {sp : Pos} {vo va vc : Value} (ho : VR ρ ov vo) (ha : VR ρ a va) (hc : VR ρ c vc) (q : PE w os₀ f loc ρ k' Q) :
    wpAny (model prog w) A (subscriptTail value (.Slice lower upper none sp) vo (.ref s.heap.objs.size)) Q E { s with heap := s.heap.push (sliceObj va vc) } := by
  obtain ⟨lo, e1, h⟩ := sf_ok h
  obtain ⟨hi, e2, h⟩ := sf_ok h
  have p1 := part_ok ha e1
  have p2 := part_ok hc e2
  have h : (match asS ov with | some x => _ | none => _) := h
  cases e3 : asS ov with
  | some x =>
    rw [e3] at h
    obtain ⟨i, ei, h⟩ := sf_ok h
    obtain ⟨j, ej, h⟩ := sf_ok h
    rw [asS_ok e3] at ho
    obtain ⟨t, eo, hx⟩ := ho.inv
    subst ei ej eo
    obtain ⟨ti, e4⟩ := part_int p1
    obtain ⟨tj, e5⟩ := part_int p2
    subst e4 e5
    exact wpAny_with_toks (n := s.toks) (Nat.le_refl _) (tail_of_ItemOn (SBH.sliceItem_ss (P := fun h => ∀ b o, s.heap.get? b = some o → h.get? b = some o) (fun h ob hh b o e => Heap.get?_push_of_some _ (hh b o e)) (fun _ _ e => e) (fun h' t' k' hk' htk => q _ _ _ _ _ (hk _ h) (.refl _) (hR.grown hk' htk) (.str _ _ (Nat.le_trans (Txt.slice_le x _ _) hx))) hx) rfl (fun r => let_str r))
  | none =>
    rw [e3] at h
    obtain ⟨l, hl, h⟩ := sf_ok h
    obtain ⟨v, hv, h⟩ := sf_ok h
    obtain ⟨hn, hk'⟩ := @whenC_ok _ _ (@instDecidableAnd _ _ (nonnegDec lo) (nonnegDec hi)) _ h
    obtain ⟨vs, h1, h2, h3⟩ := seen_ok hl ho hv
    exact cut_wp hR ho h1 h2 h3 p1 p2 hn.1 hn.2 fun ρ' val s' le hR' hval => q _ _ _ _ _ (hk _ hk') le hR' hval
/-- two lists of fine items, the same -/
theorem eqT (hR : R w os₀ f.h₀ f.L f.outs loc st ρ s) (hb : NoneBooked s.heap) (hu : A.units + 70 < cLine) {va vb : Value} {v : V} {vs : List V} (e : itemsV v = some vs) (hf : ∀ u ∈ vs, fineV 4 u) (h1 : VR ρ v va) (h2 : VR ρ v vb) (hq : Q (.bool true) s) : wpAny (model prog w) A (compareOp .Eq va vb) Q E s := by
  obtain ⟨x, xs, n1, X⟩ := hR.frozen h1 e
  obtain ⟨y, ys, n2, Y⟩ := hR.frozen h2 e
  rw [X.e, Y.e]
  have l1 := X.vr.length
  refine eq_listAt (e := fun _ => true) (isList_of X.at_) (isList_of Y.at_) (by rw [List.size_toArray, List.size_toArray, l1, Y.vr.length]) (Nat.lt_of_le_of_lt (by omega) hu) (fun j h1 h2 => ?_) ((all_true _).symm ▸ hq)
  have hj : j < vs.length := l1 ▸ h1
  obtain ⟨x', hx', hvx'⟩ := X.vr.get (List.getElem?_eq_getElem hj)
  obtain ⟨y', hy', hvy'⟩ := Y.vr.get (List.getElem?_eq_getElem hj)
  rw [get_arr h1 hx', get_arr h2 hy']
  exact eqAt_same hR hb 4 A.in1 _ _ _ (Nat.lt_of_le_of_lt (show A.units + 1 + 4 ≤ A.units + 70 by omega) hu) (hf _ (List.getElem_mem hj)) hvx' hvy'
theorem eqL_sound {a b : V} {k : Bool → Prop} (h : eqL a b k) (hR : R w os₀ f.h₀ f.L f.outs loc st ρ s) (hb : NoneBooked s.heap) {va vb : Value} (ha : VR ρ a va) (hvb : VR ρ b vb) (hu : A.units + 70 < cLine) (q : ∀ c, k c → Q (.bool c) s) : wpAny (model prog w) A (compareOp .Eq va vb) Q E s := by
  cases a with
  | tri x =>
    obtain ⟨y, ey, h⟩ := sf_ok h
    rw [triOf_ok ey] at hvb
    obtain ⟨a1, xs, n1, X⟩ := hR.frozen ha rfl
    obtain ⟨b1, ys, n2, Y⟩ := hR.frozen hvb rfl
    rw [X.e, Y.e]
    exact eq_intsK (isList_of X.at_) X.vr.to_ints (isList_of Y.at_) Y.vr.to_ints (Nat.lt_of_le_of_lt (by omega) hu) (q _ h)
  | tr x =>
    obtain ⟨y, ey, ⟨e, hf⟩, hk⟩ := sf_ok h
    rw [trOf_ok ey, ← e] at hvb
    exact eqT hR hb hu rfl hf ha hvb (q _ hk)
  | trs x =>
    obtain ⟨y, ey, e, hk⟩ := sf_ok h
    rw [trsOf_ok ey, ← e] at hvb
    exact eqT hR hb hu rfl (fun u hu => by obtain ⟨i, -, e⟩ := List.mem_map.mp hu; subst e; trivial) ha hvb (q _ hk)
  | _ => exact h.elim
theorem stCmp_sound {op : CmpOp} {a b : V} {k : Bool → Prop} (h : stCmp st op a b k) (hR : R w os₀ f.h₀ f.L f.outs loc st ρ s) (hb : NoneBooked s.heap) {va vb : Value} (ha : VR ρ a va) (hvb : VR ρ b vb) (hu : A.units + 70 < cLine) (q : ∀ c, k c → Q (.bool c) s) : wpAny (model prog w) A (compareOp op va vb) Q E s := by
  unfold stCmp at h
  cases hc : cmpV op a b with
  | some c => rw [hc] at h; exact cmp_sound hc ha hvb (q _ h)
  | none =>
    rw [hc] at h
    cases op with
    | In =>
      obtain ⟨i, ei, h⟩ := sf_ok (show inL st a b k from h)
      obtain ⟨ns, hn, h⟩ := sf_ok h
      rw [asI_ok ei] at ha
      obtain ⟨t, e⟩ := ha.inv
      rw [e]
      exact in_wp hR hn hvb (q _ h)
    | Eq => exact eqL_sound h hR hb ha hvb hu q
    | _ => exact h.elim
end

/-! methods -/
noncomputable def MR.val : MR → Value
  | .user f => .ref f
  | .pure n => .builtin n
  | .app _ => .builtin "list.append"
  | .rem _ => .builtin "list.remove"
noncomputable def MR.Good (ov : V) : MR → Prop
  | .app j => ov = .ref j
  | .rem j => ov = .ref j
  | _ => True
structure MethR (prog : Program) (w : World) (K : Frag) (ov : V) (m : MR) (oval : Value) (name : Str) (s : Shared) : Prop where
  good : m.Good ov
  keep : ∀ (M : Model) (h : Heap), K.In h → ∃ k, (k = Keeper.frame ∨ k = Keeper.machine ∨ k = Keeper.boundFrame) ∧ Looks M h (keeperOf m.val) k
  get : ∀ (A : Around) (E : Value → Shared → Prop) (Q : Value × List Value → Shared → Prop) (pl : Sem Bool), Q (m.val, [oval]) s → wpAny (model prog w) A (getMethod oval name pl) Q E s
theorem machine_keeps {n : String} (M : Model) (h : Heap) : K.In h → ∃ k, (k = Keeper.frame ∨ k = Keeper.machine ∨ k = Keeper.boundFrame) ∧ Looks M h (keeperOf (.builtin n)) k := fun _ => ⟨.machine, .inr (.inl rfl), Looks.of_pure rfl⟩
theorem list_methR {name : Str} {j : Nat} {a : Addr} {xs : Array Value} {n : Nat} {s : Shared} {m : MR} (ha : s.heap.get? a = some (listOf xs n)) {b : Bool} (h : methL name j b = some m) : MethR prog w K (.ref j) m (.ref a) name s := by
  unfold methL at h
  cases h1 : sEq name "append" with
  | true =>
    rw [h1] at h
    rw [sEq_iff.mp h1, ← Option.some.inj h]
    exact ⟨rfl, machine_keeps, fun A E Q pl q => getMethod_list_append ha rfl rfl q⟩
  | false =>
    rw [h1] at h
    have h : (match b && sEq name "remove" with | true => some (MR.rem j) | false => none) = some m := h
    cases h2 : (b && sEq name "remove") with
    | false => rw [h2] at h; exact no' h
    | true =>
      rw [h2] at h
      rw [sEq_iff.mp (Bool.and_eq_true_iff.mp h2).2, ← Option.some.inj h]
      exact ⟨rfl, machine_keeps, fun A E Q pl q => getMethod_list_of PySem.F.slot_list_remove PySem.F.type_list_remove (isList_of ha) ⟨_, ha, rfl⟩ q⟩
theorem meth_ok (O : Γ.Ok prog w K X) {f : FD} (hf : f.Ok K mg mb) {loc : Loc} {st : St} {ov : V} {name : Str} {m : MR} (hm : methR Γ st ov name = some m) {ρ : Lab} {s : Shared} {oval : Value} (hR : R w os₀ f.h₀ f.L f.outs loc st ρ s) (hov : VR ρ ov oval) : MethR prog w K ov m oval name s := by
  cases ov with
  | str x =>
    obtain ⟨t, e, _⟩ := hov.inv
    obtain ⟨nm, h1, h2⟩ := Option.map_eq_some_iff.mp hm
    rw [e, ← h2]
    exact ⟨trivial, machine_keeps, fun A E Q pl q => O.sm name nm (getA_mem h1) _ _ _ _ _ _ _ _ q⟩
  | ref j =>
    have hm : (match getO j st.objs with | some o => methO Γ name j o | none => none) = some m := hm
    cases ho : getO j st.objs with
    | none => rw [ho] at hm; exact no' hm
    | some o =>
      rw [ho] at hm
      cases o with
      | inst C as =>
        have hm : (match getA name as with | some _ => none | none => (get2 Γ.meth C name).map MR.user) = some m := hm
        cases h2 : getA name as with
        | some _ => rw [h2] at hm; exact no' hm
        | none =>
          rw [h2] at hm
          obtain ⟨f', h1, e⟩ := Option.map_eq_some_iff.mp (show (get2 Γ.meth C name).map MR.user = some m from hm)
          obtain ⟨l, h3, h4⟩ := get2_ok h1
          have ma := O.meth C l h3 name f' h4
          obtain ⟨mm, F, _⟩ := hR.fr
          obtain ⟨ns, pre, post, a, dx, nn, es, I⟩ := hR.inst ho hov
          rw [I.e, ← e]
          exact ⟨trivial, fun M h X => keeps_K ma.keep h X, fun A E Q pl q => method_inst F hf.gd.inK I.at_ ma.get ma.find ma.fn (I.ar.getL_none h2) q⟩
      | list us => obtain ⟨a, xs, n1, X⟩ := hR.shown (vs := us) hov (by show (match getO j st.objs with | some o => showO o | none => none) = _; rw [ho]; rfl); rw [X.e]; exact list_methR X.at_ (show methL name j false = some m from hm)
      | nums is => obtain ⟨a, xs, n1, X⟩ := hR.shown (vs := is.map .int) hov (by show (match getO j st.objs with | some o => showO o | none => none) = _; rw [ho]; rfl); rw [X.e]; exact list_methR X.at_ (show methL name j true = some m from hm)
      | _ => exact no' hm
  | _ => exact no' hm
theorem VRs.one {ρ : Lab} {vs : List V} {v : V} {vals : List Value} (h : VRs ρ vs vals) (e : one vs = some v) : ∃ x, vals = [x] ∧ VR ρ v x := by
  rw [one_ok e] at h
  obtain ⟨x, ys, e, h1, h2⟩ := h.inv
  exact ⟨x, e.trans (congrArg _ (show ys = [] from h2.inv)), h1⟩
theorem sound_MR (hX : X ≤ 900) (O : Γ.Ok prog w K X) (ih : Sound prog w K mg mb os₀ X n r) {f : FD} (F : Fit K mg mb X (n + 1) f) {m : MR} {ov : V} (hg : m.Good ov) {p : Path} {loc : Loc} {st : St} {vs kvs : List V} {xs : List Str} {k : Path → V → St → Prop} {k' : V → St → Prop} (h : stMeth Γ r p st m ov vs xs kvs k) (hk : ∀ p v st, k p v st → k' v st)
    {ρ : Lab} {s : Shared} {Q : Value → Shared → Prop} {Ex : Value → Shared → Prop} {oval : Value} {vals kvals : List Value} (hR : R w os₀ f.h₀ f.L f.outs loc st ρ s) (hov : VR ρ ov oval) (hvs : VRs ρ vs vals) (hkv : VRs ρ kvs kvals) (hl : xs.length = kvs.length) (q : PE w os₀ f loc ρ k' Q) : wpAny (model prog w) f.A (call m.val ([oval] ++ vals) (xs.zip kvals)) Q Ex s := by
  cases m with
  | user a => exact wpAny_call (ih.U f F.ok F.here h hk loc ρ s _ _ _ hR (.cons hov hvs) hkv hl q)
  | pure nm =>
    obtain ⟨hx, h⟩ := ef_ok h
    rw [List.isEmpty_iff.mp hx]
    exact sound_Bi F hX (O.bi nm) (O.biS nm) h hk hR (.cons hov hvs) q
  | app j =>
    obtain ⟨hx, h⟩ := ef_ok h
    obtain ⟨v, hv, h⟩ := sf_ok h
    obtain ⟨o, ho, h⟩ := sf_ok h
    obtain ⟨x, e, hvx⟩ := hvs.one hv
    rw [List.isEmpty_iff.mp hx, e]
    rw [show ov = .ref j from hg] at hov
    exact sound_App hR ho hov hvx h fun st' s' g hR' => q _ _ _ _ _ (hk _ _ _ g) (.refl _) hR' .none
  | rem j =>
    obtain ⟨hx, h⟩ := ef_ok h
    obtain ⟨v, hv, h⟩ := sf_ok h
    obtain ⟨i, ei, h⟩ := sf_ok h
    obtain ⟨o, ho, h⟩ := sf_ok h
    obtain ⟨ns, hn, h⟩ := sf_ok h
    obtain ⟨x, e, hvx⟩ := hvs.one hv
    rw [List.isEmpty_iff.mp hx, e]
    rw [show ov = .ref j from hg] at hov
    rw [asI_ok ei] at hvx
    rw [numsIn_ok hn] at ho
    exact rem_wp hR ho h.1 hov hvx fun s' hR' => q _ _ _ _ _ (hk _ _ _ h.2) (.refl _) hR' .none

/-! expressions -/
theorem Sound.Ex (ih : Sound prog w K mg mb os₀ X n r) {f : FD} (F : Fit K mg mb X n f) {p : Path} {loc : Loc} {st : St} {e : Expr} {k : Path → V → St → Prop} (h : r.E f.cs.names p loc st e k) : TE prog w os₀ f e loc st fun v st => ∃ p, k p v st := ih.E f F h fun p _ _ h => ⟨p, h⟩
theorem sound_Ax (ih : Sound prog w K mg mb os₀ X n r) {f : FD} (F : Fit K mg mb X n f) {loc : Loc} {pos : Pos} {args : List Expr} {p : Path} {st : St} {k : Path → List V → St → Prop} (h : stA r f.cs.names loc p st args k) : TA prog w os₀ f pos args loc st fun vs st => ∃ p, k p vs st := sound_A ih F h fun p _ _ h => ⟨p, h⟩
theorem kindOf_of {x : Str} {kd : NameKind} {f : FD} (h : getA x f.cs.names = some kd) : f.env.kindOf x = some kd := by
  show f.cs.names.lookup x = some kd
  rw [lookup_getA]; exact h
theorem sound_Const {f : FD} {p : Path} {loc : Loc} {st : St} {c : Const} {kk : Nat} {pos : Pos} {k : Path → V → St → Prop} {k' : V → St → Prop} (h : stConst p st k c) (hk : ∀ p v st, k p v st → k' v st) : TE prog w os₀ f (.Constant c kk pos) loc st k' := by
  intro ρ s Q Ex hR q
  cases c with
  | none => exact fun _ _ _ => q _ _ _ _ _ (hk _ _ _ h) (.refl _) hR .none
  | bool b => exact fun _ _ _ => q _ _ _ _ _ (hk _ _ _ h) (.refl _) hR (.bool _)
  | int i => exact fun _ _ _ => q _ _ _ _ _ (hk _ _ _ h) (.refl _) (hR.toks _ (Nat.le_succ _)) (.int _ _)
  | str x =>
    obtain ⟨hb, h⟩ := ef_ok h
    exact Constant_str (q _ _ _ _ _ (hk _ _ _ h) (.refl _) (hR.toks _ (Nat.le_succ _)) (.str _ _ (by rw [sizeLine_eq]; exact Nat.le_of_ble_eq_true hb)))
  | _ => exact h.elim
theorem cellVal_ok {o : O} {v : V} (h : cellVal o = some v) : o = .cell (some v) := by
  unfold cellVal at h
  cases e : cellIn o with
  | none => rw [e] at h; exact no' h
  | some u => rw [e] at h; rw [cellIn_ok e]; exact congrArg O.cell h
theorem cell_ok {loc : Loc} {p : Path} {st : St} {x : Str} {k : Path → V → St → Prop} (h : stCell loc p st x k) : ∃ j v, getA x loc = some (.ref j) ∧ getO j st.objs = some (.cell (some v)) ∧ k p v st := by
  obtain ⟨u, hu, h⟩ := sf_ok h
  obtain ⟨y, hy, h⟩ := sf_ok h
  obtain ⟨e, o, ho, hv⟩ := atO_ok hy
  exact ⟨y.1, y.2, e ▸ hu, cellVal_ok hv ▸ ho, h⟩
theorem sound_Name (O : Γ.Ok prog w K X) {f : FD} (hf : f.Ok K mg mb) {p : Path} {loc : Loc} {st : St} {x : Str} {pos : Pos} {k : Path → V → St → Prop} {k' : V → St → Prop} (h : nf (sEq x "__debug__") (sf (getA x f.cs.names) (stName Γ p loc st x k))) (hk : ∀ p v st, k p v st → k' v st) : TE prog w os₀ f (.Name x pos) loc st k' := by
  intro ρ s Q Ex hR q
  obtain ⟨hd, h⟩ := nf_ok h
  obtain ⟨kd, hkd, h⟩ := sf_ok h
  have hx := kindOf_of hkd
  cases kd with
  | «local» =>
    obtain ⟨v, hv, h⟩ := sf_ok h
    exact hR.name rfl hf.kind hx (hf.loc _ hx) hd hv fun val hval => q _ _ _ _ _ (hk _ _ _ h) (.refl _) hR hval
  | globalImplicit =>
    obtain ⟨v, hv, h⟩ := sf_ok h
    exact hR.glob hf.gd O hf.kind hx rfl rfl hd hv fun val hval => q _ _ _ _ _ (hk _ _ _ h) (.refl _) hR hval
  | cell =>
    obtain ⟨j, v, hl, ho, h⟩ := cell_ok h
    obtain ⟨c, hc⟩ := hf.cel _ hx
    exact hR.nameCell hf.kind hx hc rfl hd hl ho fun val hval => q _ _ _ _ _ (hk _ _ _ h) (.refl _) hR hval
  | free =>
    obtain ⟨hcd, h⟩ := nf_ok h
    obtain ⟨j, v, hl, ho, h⟩ := cell_ok h
    obtain ⟨c, hc⟩ := hf.fre _ hx
    exact hR.nameFree hf.kind hx hc rfl hd hcd hl ho fun val hval => q _ _ _ _ _ (hk _ _ _ h) (.refl _) hR hval
  | _ => exact h.elim
theorem part_sound (ih : Sound prog w K mg mb os₀ X n r) (f : FD) (F : Fit K mg mb X n f) {loc : Loc} {p : Path} {st : St} {e : Option Expr} {k : Path → V → St → Prop} (h : stPart r f.cs.names loc p st e k) {ρ : Lab} {s : Shared} {Q : Value → Shared → Prop} {Ex : Value → Shared → Prop} (hR : R w os₀ f.h₀ f.L f.outs loc st ρ s)
    (q : PE w os₀ f loc ρ (fun v st => ∃ p, k p v st) Q) : wpAny (model prog w) f.A (evalPart e f.env) Q Ex s := by
  cases e with
  | none => exact wpAny_pure (q _ _ _ _ _ ⟨p, h⟩ (.refl _) hR .none)
  | some e => exact ih.Ex F h ρ s Q Ex hR q
theorem sound_Sub (ih : Sound prog w K mg mb os₀ X n r) (f : FD) (F : Fit K mg mb X n f) {p : Path} {loc : Loc} {st : St} {o i : Expr} {pos : Pos} {k : Path → V → St → Prop} {k' : V → St → Prop} (h : stSub r f.cs.names p loc st o i k) (hk : ∀ p v st, k p v st → k' v st) : TE prog w os₀ f (.Subscript o i pos) loc st k' := by
  intro ρ s Q Ex hR q
  unfold stSub at h
  cases e : asSlice i with
  | some x =>
    rw [e] at h
    rw [asSlice_ok e]
    refine Subscript_ (ih.Ex F h ρ s _ Ex hR fun ov st₁ ρ₁ vo s₁ ⟨p, h⟩ le₁ hR₁ ho => ?_)
    refine wpAny_Slice (part_sound ih f F h hR₁ fun a st₂ ρ₂ va s₂ ⟨p, h⟩ le₂ hR₂ ha => ?_)
    refine part_sound ih f F h hR₂ fun b st₃ ρ₃ vb s₃ ⟨p, h⟩ le₃ hR₃ hb => ?_
    refine (show wpAny _ _ (pure Value.none) _ _ _ from wpAny_pure ?_)
    exact cut_sound h (hk p · _) hR₃ (ho.mono (le₂.trans le₃)) (ha.mono le₃) hb (q.trans (le₁.trans (le₂.trans le₃)))
  | none =>
    rw [e] at h
    obtain ⟨hpl, h⟩ := ef_ok h
    refine Subscript_ (ih.Ex F h ρ s _ Ex hR fun ov st₁ ρ₁ vo s₁ ⟨p, h⟩ le₁ hR₁ ho => ?_)
    refine ih.Ex F h ρ₁ s₁ _ Ex hR₁ fun iv st₂ ρ₂ vi s₂ ⟨p, h⟩ le₂ hR₂ hi => ?_
    obtain ⟨n, hn, h⟩ := sf_ok h
    obtain ⟨vs, v, e1, X, g⟩ := idx_ok h
    rw [asI_ok hn] at hi
    obtain ⟨t, e⟩ := hi.inv
    rw [e]
    exact item_wp hR₂ (ho.mono le₂) hpl e1 X fun val hval => q _ _ _ _ _ (hk _ _ _ g) (le₁.trans le₂) hR₂ hval
theorem sound_List (ih : Sound prog w K mg mb os₀ X n r) (f : FD) (F : Fit K mg mb X n f) {p : Path} {loc : Loc} {st : St} {elts : List Expr} {pos : Pos} {k : Path → V → St → Prop} {k' : V → St → Prop} (h : stList r f.cs.names p loc st elts k) (hk : ∀ p v st, k p v st → k' v st) : TE prog w os₀ f (.List elts pos) loc st k' := by
  intro ρ s Q Ex hR q
  cases elts with
  | nil =>
    refine List_ (spliced_nil (wpAny_newObj_type ?_))
    obtain ⟨ρ', le, hof, hR'⟩ := hR.new1 (tk := s.toks) (x := .list []) push_keeps (Heap.get?_push_size _ rfl) (fun ρ' _ => .list (n := 0) (xs := []) .nil (Nat.zero_le _)) (Nat.le_refl _)
    exact q _ _ _ _ _ (hk _ _ _ h) le hR' (.ref hof)
  | cons e es =>
    have h : stA r f.cs.names loc p st (e :: es) (fun p vs st => sf (packV vs) fun v => ef (Nat.ble vs.length 100) (k p v st)) := h
    refine List_ (sound_Ax ih F h ρ s _ Ex hR fun vs st₁ ρ₁ vals s₁ ⟨p, h⟩ le₁ hR₁ hvs => ?_)
    obtain ⟨v, hv, h⟩ := sf_ok h
    obtain ⟨hz, h⟩ := ef_ok h
    have hp := packV_items hv
    have hlen : vs.length ≤ sizeLine := Nat.le_trans (Nat.le_of_ble_eq_true hz) (by rw [sizeLine_eq]; decide)
    refine wpAny_newObj_type ?_ (by show vals.toArray.size ≤ sizeLine; rw [List.size_toArray, hvs.length]; exact hlen)
    obtain ⟨ρ', le, hval, hR'⟩ := hR₁.newList (tk := s₁.toks) (n := 0) push_keeps (size_none (Nat.le_refl _)) (Heap.get?_push_size _ rfl) hvs hp.1 hp.2 hlen (Nat.le_refl _)
    exact q _ _ _ _ _ (hk _ _ _ h) (le₁.trans le) hR' hval
theorem isName_call {fn : Expr} {args : List Expr} {kws : List Keyword} {pos : Pos} {env : Env} (h : isName fn = true) : eval (.Call fn args kws pos) env = (eval fn env >>= fun fv => callWith pos fv [] (backTo pos (starEach args env)) (backToKw pos (keywordEach kws env))) := by
  cases fn <;> first | rfl | exact absurd h Bool.false_ne_true
theorem sound_Cl (hX : X ≤ 900) (O : Γ.Ok prog w K X) (ih : Sound prog w K mg mb os₀ X n r) (f : FD) (F : Fit K mg mb X (n + 1) f) {p : Path} {loc : Loc} {st : St} {fn : Expr} {args : List Expr} {kws : List Keyword} {pos : Pos} {k : Path → V → St → Prop} {k' : V → St → Prop} (h : stCl Γ r f.cs.names p loc st fn args kws pos k) (hk : ∀ p v st, k p v st → k' v st) : TE prog w os₀ f (.Call fn args kws pos) loc st k' := by
  intro ρ s Q Ex hR q
  obtain ⟨hp, h⟩ := ef_ok h
  have h : (match asAttr fn with | some a => _ | none => _) := h
  cases e : asAttr fn with
  | none =>
    rw [e] at h
    obtain ⟨hn, h⟩ := ef_ok h
    rw [isName_call hn]
    exact wpAny_bind (ih.Ex F.pred h ρ s _ Ex hR fun fv st₁ ρ₁ fval s₁ ⟨p, h⟩ le₁ hR₁ hfv => sound_Call hX O ih F hp h hk hR₁ hfv (q.trans le₁))
  | some a =>
    rw [e] at h
    obtain ⟨hall, h⟩ := ef_ok h
    have hall := Bool.and_eq_true_iff.mp hall
    have hall2 := Bool.and_eq_true_iff.mp hall.2
    rw [asAttr_ok e]
    refine meth_call hp hall.1 (beq_eq hall2.1) (Nat.le_of_ble_eq_true hall2.2) (ih.Ex F.pred h ρ s _ Ex hR fun ov st₁ ρ₁ oval s₁ ⟨p, h⟩ le₁ hR₁ hov => ?_)
    obtain ⟨m, hm, h⟩ := sf_ok h
    have Z := meth_ok O F.ok hm hR₁ hov
    refine Z.get _ _ _ _ ?_
    exact (sound_AK ih F.pred (k' := fun vs kvs st => (kwNames kws).length = kvs.length ∧ ∃ p, stMeth Γ r p st m ov vs (kwNames kws) kvs k) h fun p vs kvs st hl h => ⟨hl, p, h⟩).call F.ok hp (Z.keep _) hR₁ fun vs kvs st' ρ' vals kvals s' ⟨hl, p, h⟩ le hR' hvs hkv => sound_MR hX O ih F Z.good h hk hR' (hov.mono le) hvs hkv hl (q.trans (le₁.trans le))
theorem TE.bin {f : FD} {l x : Expr} {op : Operator} {pos : Pos} {loc : Loc} {st : St} {k : V → St → Prop}
    (h : TE prog w os₀ f l loc st fun a st => TE prog w os₀ f x loc st fun b st => ∃ k₀ : V → St → Prop, stBin st op a b k₀ ∧ ∀ v st, k₀ v st → k v st) : TE prog w os₀ f (.BinOp l op x pos) loc st k := by
  intro ρ s Q Ex hR q
  refine wpAny_BinOp (h ρ s _ _ hR fun a st₁ ρ₁ va s₁ h₁ le₁ hR₁ ha => h₁ ρ₁ s₁ _ _ hR₁ fun b st₂ ρ₂ vb s₂ ⟨k₀, h₂, hk⟩ le₂ hR₂ hb => ?_)
  exact stBin_sound h₂ hk hR₂ (ha.mono le₂) hb (q.trans (le₁.trans le₂))
theorem TE.neg {f : FD} {x : Expr} {pos : Pos} {loc : Loc} {st : St} {k : V → St → Prop} (h : TE prog w os₀ f x loc st fun a st => sf (asI a) fun i => k (.int (-i)) st) : TE prog w os₀ f (.UnaryOp .USub x pos) loc st k := by
  intro ρ s Q Ex hR q
  refine UnaryOp_ (h ρ s _ _ hR fun a st₁ ρ₁ va s₁ h₁ le₁ hR₁ ha => ?_)
  obtain ⟨i, hi, h₁⟩ := sf_ok h₁
  rw [asI_ok hi] at ha
  obtain ⟨t, e⟩ := ha.inv
  rw [e]
  exact neg_int (q _ _ _ _ _ h₁ le₁ (hR₁.toks _ (Nat.le_succ _)) (.int _ _))
theorem TE.ite {f : FD} {t b o : Expr} {pos : Pos} {loc : Loc} {st : St} {k : V → St → Prop} (h : TT prog w os₀ f t loc st fun c st => match c with | true => TE prog w os₀ f b loc st k | false => TE prog w os₀ f o loc st k) : TE prog w os₀ f (.IfExp t b o pos) loc st k := by
  intro ρ s Q Ex hR q
  refine IfExp_ (h ρ s _ _ hR fun c st₁ ρ₁ s₁ h₁ le₁ hR₁ => ?_)
  cases c <;> exact h₁ ρ₁ s₁ Q Ex hR₁ (q.trans le₁)
theorem TE.cmp (hX : X ≤ 900) {f : FD} (F : Fit K mg mb X n f) {l x : Expr} {op : CmpOp} {pos : Pos} {loc : Loc} {st : St} {k : V → St → Prop} (hns : noSet x = true)
    (h : TE prog w os₀ f l loc st fun a st => TE prog w os₀ f x loc st fun b st => stCmp st op a b fun c => k (.bool c) st) : TE prog w os₀ f (.Compare l [op] [x] pos) loc st k := by
  intro ρ s Q Ex hR q
  refine wpAny_Compare1 (h ρ s _ _ hR fun a st₁ ρ₁ va s₁ h₁ le₁ hR₁ ha => h₁ ρ₁ s₁ _ _ hR₁ fun b st₂ ρ₂ vb s₂ h₂ le₂ hR₂ hb => ?_) (noSet_marks hns)
  exact stCmp_sound h₂ hR₂ (booked_keeps F.ok.gd.booked hR₂.keep) (ha.mono le₂) hb (F.line70 hX) fun c hk => q _ _ _ _ _ hk (le₁.trans le₂) hR₂ (.bool _)
theorem stCmp_mono {st : St} {op : CmpOp} {a b : V} {k k' : Bool → Prop} (h : stCmp st op a b k) (hk : ∀ c, k c → k' c) : stCmp st op a b k' := by
  unfold stCmp at h ⊢
  cases hc : cmpV op a b with
  | some c => rw [hc] at h; exact hk _ h
  | none =>
    rw [hc] at h
    cases op with
    | In =>
      obtain ⟨i, ei, h⟩ := sf_ok (show inL st a b k from h)
      obtain ⟨ns, hn, h⟩ := sf_ok h
      show inL st a b k'
      unfold inL; rw [ei]; show sf (numsOf st b) _; rw [hn]; exact hk _ h
    | Eq =>
      have h : eqL a b k := h
      show eqL a b k'
      cases a with
      | tri x => obtain ⟨y, ey, h⟩ := sf_ok h; show sf (triOf b) _; rw [ey]; exact hk _ h
      | tr x => obtain ⟨y, ey, h⟩ := sf_ok h; show sf (trOf b) _; rw [ey]; exact ⟨h.1, hk _ h.2⟩
      | trs x => obtain ⟨y, ey, h⟩ := sf_ok h; show sf (trsOf b) _; rw [ey]; exact ⟨h.1, hk _ h.2⟩
      | _ => exact h.elim
    | _ => exact h.elim
theorem sound_E (hX : X ≤ 900) (O : Γ.Ok prog w K X) (ih : Sound prog w K mg mb os₀ X n r) (f : FD) (F : Fit K mg mb X (n + 1) f) {p : Path} {loc : Loc} {st : St} {e : Expr} {k : Path → V → St → Prop} {k' : V → St → Prop} (h : stE Γ r f.cs.names p loc st e k) (hk : ∀ p v st, k p v st → k' v st) : TE prog w os₀ f e loc st k' := by
  cases e with
  | Constant c kk pos => exact sound_Const h hk
  | Name x pos => exact sound_Name O F.ok h hk
  | Attribute o name pos =>
    obtain ⟨hb, h⟩ := ef_ok h
    exact fun ρ s Q Ex hR q => attr_eval hb (ih.Ex F.pred h ρ s _ Ex hR fun ov st' ρ' oval s' ⟨p, h⟩ le hR' hov => sound_Attr O ih f F h hk hR' hov (q.trans le))
  | BinOp l op x pos => exact .bin (ih.E f F.pred h fun p a st h => ih.E f F.pred h fun p b st h => ⟨_, h, fun _ _ => hk p _ _⟩)
  | UnaryOp op x pos =>
    obtain ⟨hu, h⟩ := ef_ok h
    rw [isUSub_ok hu]
    exact .neg (ih.E f F.pred h fun p a st h => by obtain ⟨i, hi, h⟩ := sf_ok h; rw [hi]; exact hk _ _ _ h)
  | IfExp t b o pos => exact .ite (ih.T f F.pred h fun p c st h => by cases c <;> exact ih.E f F.pred h hk)
  | Compare l ops xs pos =>
    obtain ⟨op, h1, h⟩ := sf_ok h
    obtain ⟨x, h2, h⟩ := sf_ok h
    obtain ⟨hns, h⟩ := ef_ok h
    rw [one_ok h1, one_ok h2]
    exact .cmp hX F hns (ih.E f F.pred h fun p a st h => ih.E f F.pred h fun p b st h => stCmp_mono h fun c => hk _ _ _)
  | Subscript o i pos => exact sound_Sub ih f F.pred h hk
  | List elts pos => exact sound_List ih f F.pred h hk
  | ListComp a b c pos =>
    obtain ⟨x, hx, ⟨e1, e2⟩, h⟩ := sf_ok h
    rw [e1]
    exact fun ρ s Q Ex hR q => O.cmp x (cmpFind_mem hx) mg mb os₀ f F.ok e2 F.dlt F.ult loc st _ h ρ s Q Ex hR fun v st' ρ' val s' g => q _ _ _ _ _ (hk _ _ _ g)
  | Call fn args kws pos => exact sound_Cl hX O ih f F h hk
  | _ => exact h.elim
end
end Mine
end
section
open PySem PySem.W PyProof.Rows PySem.Calls PySem.SeqAt
set_option Elab.async false
set_option maxRecDepth 100000
set_option genSizeOf false
set_option genInjectivity false
namespace Mine
/-! going through a list, a text, a range -/
noncomputable def iterV : V → Option (List V)
  | .rng n => (match decide (n ≤ sizeLine) with | true => some ((List.range n).map fun i => .int (i : Nat)) | false => none)
  | .str x => some (x.cps.toList.map fun c => .str ⟨#[c]⟩)
  | v => itemsV v
/-- an iterator in its place -/
structure ItW (prog : Program) (w : World) (A : Around) (ρ : Lab) (items : List V) (I : Addr) (fp : List Addr) (P : Nat → Value → Prop) (Si : Nat → Heap → Prop) : Prop where
  walks : Walks prog w A I fp [I] items.length P Si
  vals : ∀ i x, P i x → ∀ v, items[i]? = some v → VR ρ v x
  fps : ∀ b ∈ fp, b = I ∨ ∃ o, (b, o) ∈ ρ.im
  alive : ∀ i h, Si i h → ∃ o, h.get? I = some o
section
variable {prog : Program} {w : World} {K : Frag} {mg mb : Str → Option Value} {os₀ : Glo} {h₀ : Heap} {L : Addr} {outs : Fx} {loc : Loc} {st : St} {ρ : Lab} {s : Shared} {A : Around} {E : Value → Shared → Prop}
theorem map_get {α β : Type} {g : α → β} {l : List α} {i : Nat} {b : β} (h : (l.map g)[i]? = some b) : ∃ a, l[i]? = some a ∧ g a = b := by
  rw [List.getElem?_map] at h; exact Option.map_eq_some_iff.mp h
theorem iter_list (r : R w os₀ h₀ L outs loc st ρ s) (hh : A.handled = none) {v : V} {val : Value} {items : List V} (hv : VR ρ v val) (e : itemsV v = some items) {Q : Value → Shared → Prop}
    (q : ∀ o fp P Si, ItW prog w A ρ items s.heap.objs.size fp P Si → Si 0 (s.heap.push o) → Q (.ref s.heap.objs.size) { s with heap := s.heap.push o }) : wpAny (model prog w) A (pyIter val) Q E s := by
  obtain ⟨a, xs, n, X⟩ := hv.frozen e
  have ha := r.imAt X.im
  rw [X.e]
  have hl := isList_of ha
  have W := Walks.list (prog := prog) (w := w) hh s.heap.objs.size a (Nat.ne_of_lt (Heap.lt_size ha)) xs.toArray
  rw [show xs.toArray.size = items.length from X.vr.length] at W
  refine wpAny_pyIter_list hl (q _ _ _ _ ⟨W, fun i x hP u hu => ?_, fun b hb => ?_, fun i h ⟨⟨o, ho, _⟩, _⟩ => ⟨o, ho⟩⟩ ⟨⟨_, Heap.get?_push_size _ rfl, rfl, rfl⟩, hl.push _⟩)
  · obtain ⟨y, hy, hvy⟩ := X.vr.get hu
    have hP : xs[i]? = some x := List.getElem?_toArray.symm.trans hP
    rw [hy] at hP
    exact Option.some.inj hP ▸ hvy
  · rcases List.mem_cons.mp hb with e | hb
    · exact .inl e
    · exact .inr ⟨_, (List.mem_singleton.mp hb) ▸ X.im⟩
theorem iter_rng (r : R w os₀ h₀ L outs loc st ρ s) (hh : A.handled = none) {n : Nat} {val : Value} (hn : n ≤ sizeLine) (hv : VR ρ (.rng n) val) {Q : Value → Shared → Prop}
    (q : ∀ o fp P Si, ItW prog w A ρ ((List.range n).map fun i => .int (i : Nat)) s.heap.objs.size fp P Si → Si 0 (s.heap.push o) → Q (.ref s.heap.objs.size) { s with heap := s.heap.push o }) : wpAny (model prog w) A (pyIter val) Q E s := by
  obtain ⟨a, t, u, x, e, him⟩ := hv.inv
  have ha := r.imAt him
  rw [e]
  rw [sizeLine_eq] at hn
  have W := Walks.range (prog := prog) (w := w) hh s.heap.objs.size 0 1 n
  refine wpAny_pyIter_range (a := 0) (b := (n : Int)) (c := 1) (t := t) (u := u) (v := x) ha (small_one (by decide) (by decide) (by omega) (by omega)) (q _ _ _ _ ⟨by rw [List.length_map, List.length_range]; exact W, fun i y hP v hu => ?_, fun b hb => .inl (List.mem_singleton.mp hb), fun i h hS => ⟨_, hS⟩⟩ ?_)
  · obtain ⟨t', e⟩ := hP
    obtain ⟨j, hj, e2⟩ := map_get hu
    obtain ⟨hj1, hj2⟩ := List.getElem?_eq_some_iff.mp hj
    rw [List.getElem_range] at hj2
    rw [e, ← e2, ← hj2, Int.mul_one, Int.zero_add]
    exact .int _ _
  · rw [show Builtin.Range.rangeSize 0 (n : Int) 1 = (n : Int) from (rangeSize_nat 0 (n : Int)).trans (by rw [Int.sub_zero]; rfl)]
    show IsRangeIter _ _ (0 + ((0 : Nat) : Int) * 1) ((n : Int) - ((0 : Nat) : Int)) 1
    rw [show (0 : Int) + ((0 : Nat) : Int) * 1 = 0 from rfl, show (n : Int) - ((0 : Nat) : Int) = n from Int.sub_zero _]
    exact Heap.get?_push_size _ rfl
theorem iter_str (hh : A.handled = none) {x : Str} {val : Value} (hv : VR ρ (.str x) val) {Q : Value → Shared → Prop}
    (q : ∀ o fp P Si, ItW prog w A ρ (x.cps.toList.map fun c => .str ⟨#[c]⟩) s.heap.objs.size fp P Si → Si 0 (s.heap.push o) → Q (.ref s.heap.objs.size) { s with heap := s.heap.push o }) : wpAny (model prog w) A (pyIter val) Q E s := by
  obtain ⟨t, e, hx⟩ := hv.inv
  rw [e]
  have fin : ∀ (i : Nat) (y : Value), SignAt x i y → ∀ v, (x.cps.toList.map fun c => V.str ⟨#[c]⟩)[i]? = some v → VR ρ v y := by
    intro i y ⟨c, u, h1, e⟩ v hu
    obtain ⟨c', h2, e2⟩ := map_get hu
    have h1 : x.cps.toList[i]? = some c := Array.getElem?_toList.trans h1
    rw [h1] at h2
    rw [e, ← e2, ← Option.some.inj h2]
    exact .str _ _ (by rw [sizeLine_eq]; show 1 ≤ _; decide)
  cases ha : x.cps.all (· < 128) with
  | false =>
    have W := Walks.strWide (prog := prog) (w := w) hh s.heap.objs.size x t
    exact wpAny_pyIter_wide ha (q _ _ (SignAt x) (fun i h => h.IsStrIter s.heap.objs.size "str_iterator" x t i) ⟨by rw [List.length_map, Array.length_toList]; exact W, fin, fun b hb => .inl (List.mem_singleton.mp hb), fun i h ⟨o, ho, _⟩ => ⟨o, ho⟩⟩ ⟨_, Heap.get?_push_size _ rfl, rfl, rfl⟩)
  | true =>
    have W := Walks.strAscii (prog := prog) (w := w) hh s.heap.objs.size x t
    exact wpAny_pyIter_ascii ha (q _ _ (SignAt x) (fun i h => h.IsStrIter s.heap.objs.size "str_ascii_iterator" x t i) ⟨by rw [List.length_map, Array.length_toList]; exact W, fin, fun b hb => .inl (List.mem_singleton.mp hb), fun i h ⟨o, ho, _⟩ => ⟨o, ho⟩⟩ ⟨_, Heap.get?_push_size _ rfl, rfl, rfl⟩)
theorem iter_wp (r : R w os₀ h₀ L outs loc st ρ s) (hh : A.handled = none) {v : V} {val : Value} {items : List V} (hv : VR ρ v val) (e : iterV v = some items) {Q : Value → Shared → Prop}
    (q : ∀ o fp P Si, ItW prog w A ρ items s.heap.objs.size fp P Si → Si 0 (s.heap.push o) → Q (.ref s.heap.objs.size) { s with heap := s.heap.push o }) : wpAny (model prog w) A (pyIter val) Q E s := by
  cases v with
  | tr _ => exact iter_list r hh hv e q
  | tri _ => exact iter_list r hh hv e q
  | trs _ => exact iter_list r hh hv e q
  | rng n =>
    have e : (match decide (n ≤ sizeLine) with | true => some ((List.range n).map fun i => V.int (i : Nat)) | false => none) = some items := e
    cases hn : decide (n ≤ sizeLine) with
    | false => rw [hn] at e; exact no' e
    | true => rw [hn] at e; have e := Option.some.inj e; subst e; exact iter_rng r hh (of_decide_eq_true hn) hv q
  | str x => have e := Option.some.inj e; subst e; exact iter_str hh hv q
  | _ => exact no' e
/-! raw objects about a frame -/
theorem R.rawIn (r : R w os₀ h₀ L outs loc st ρ s) {h' : Heap} {tk : Nat} {a : Addr} {o : Obj} (hk : ∀ b o, s.heap.get? b = some o → h'.get? b = some o) (hn : s.heap.get? a = none) (ho : h'.get? a = some o) (htk : s.toks ≤ tk := by omega) :
    R w os₀ h₀ L { outs with raw := (a, o) :: outs.raw } loc st ρ { s with heap := h', toks := tk } := by
  obtain ⟨m, M⟩ := r.fr
  exact (r.relay (outs' := { outs with raw := (a, o) :: outs.raw }) (im' := ρ.im) (fun _ h => h) rfl rfl M (M.F.keeps hk) (fun pre l N nd => News.perm List.perm_middle (News.grow1 M.F N hk hn ho) (List.nodup_cons.mpr ⟨News.notIn N hn, nd⟩)) htk).2
theorem R.rawNews {S : Addr} {o : Obj} {raw : List (Addr × Obj)} (r : R w os₀ h₀ L { outs with raw := (S, o) :: raw } loc st ρ s) : s.heap.get? S = some o ∧ S ≠ L ∧ h₀.get? S = none := by
  obtain ⟨ns, N, T, nd⟩ := r.led
  obtain ⟨pre, l, X⟩ := T.parts
  obtain ⟨c, fs, Y⟩ := X.r
  exact N (S, o) (X.e ▸ List.mem_append_right _ (Y.e ▸ List.mem_append_left _ (.head _)))
theorem R.rawAt {S : Addr} {o : Obj} {raw : List (Addr × Obj)} (r : R w os₀ h₀ L { outs with raw := (S, o) :: raw } loc st ρ s) : s.heap.get? S = some o := r.rawNews.1
/-- the first raw object turns, or goes -/
theorem R.rawTurn {S : Addr} {o : Obj} {raw : List (Addr × Obj)} (r : R w os₀ h₀ L { outs with raw := (S, o) :: raw } loc st ρ s) {h' : Heap} {tk : Nat} (hk : ∀ b x, b ≠ S → s.heap.get? b = some x → h'.get? b = some x) (htk : s.toks ≤ tk) :
    (∀ o', h'.get? S = some o' → R w os₀ h₀ L { outs with raw := (S, o') :: raw } loc st ρ { s with heap := h', toks := tk }) ∧ R w os₀ h₀ L { outs with raw := raw } loc st ρ { s with heap := h', toks := tk } := by
  obtain ⟨m, M⟩ := r.fr
  have hS := r.rawNews
  have F' := Fr.turn M.F hS.2.1 hS.2.2 hk
  exact ⟨fun o' ho' => (r.relay (outs' := { outs with raw := (S, o') :: raw }) (im' := ρ.im) (fun _ h => h) rfl rfl M F' (fun pre l N nd => (News.turn N nd hk).2 o' ho') htk).2,
    (r.relay (outs' := { outs with raw := raw }) (im' := ρ.im) (fun _ h => h) rfl rfl M F' (fun pre l N nd => (News.turn N nd hk).1) htk).2⟩
end
section
variable {prog : Program} {w : World} {K : Frag} {mg mb : Str → Option Value} {os₀ : Glo} {f : FD} {loc : Loc} {st : St} {ρ : Lab} {s : Shared} {E : Value → Shared → Prop}
/-- a loop under way: what is still to come -/
structure ForAt (w : World) (os₀ : Glo) (f : FD) (ρ : Lab) (I : Addr) (items : List V) (J : List V → Loc → St → Prop) (Si : Nat → Heap → Prop) (n : Nat) (s : Shared) (i : Nat) (loc : Loc) (st : St) (ρ' : Lab) (o : Obj) : Prop where
  le : i ≤ items.length
  n : n = items.length + 1 - i
  at_ : Si i s.heap
  J : J (items.drop i) loc st
  lab : LabLe ρ ρ'
  R : R w os₀ f.h₀ f.L { f.outs with raw := (I, o) :: f.outs.raw } loc st ρ' s
/-- an iterator's place stays as it is while what it leans on stays -/
theorem ItW.frame {A : Around} {items : List V} {I : Addr} {fp : List Addr} {P : Nat → Value → Prop} {Si : Nat → Heap → Prop} (W : ItW prog w A ρ items I fp P Si) {i : Nat} {h h' : Heap} (hS : Si i h) {o : Obj} (h1 : h.get? I = some o) (h2 : h'.get? I = some o) (h3 : ∀ p ∈ ρ.im, h.get? p.1 = some p.2) (h4 : ∀ p ∈ ρ.im, h'.get? p.1 = some p.2) : Si i h' :=
  W.walks.frame _ _ _ hS fun b hb u hu => by
    rcases W.fps b hb with e | ⟨ob, hob⟩
    · rw [e, h1] at hu; rw [e, ← Option.some.inj hu]; exact h2
    · rw [h3 _ hob] at hu; rw [← Option.some.inj hu]; exact h4 _ hob
theorem less_turn {n i : Nat} (h : i < n) : n + 1 - (i + 1) < n + 1 - i := Nat.sub_lt_sub_left (Nat.lt_succ_of_lt h) (Nat.lt_succ_self i)
/-- a for loop, by what holds of the items still to come -/
theorem for_core (hf : f.Ok K mg mb) {x : Str} {px : Pos} {body : List Stmt} (hx : f.cs.names.lookup x = some .local) (J : List V → Loc → St → Prop) {k : Fl → Loc → St → Prop}
    (turn : ∀ raw v vs loc st, J (v :: vs) loc st → TB prog w os₀ (f.withRaw raw) body (putA x v loc) st (fun fl loc' st' => match fl with
      | .next => J vs loc' st'
      | .cont => J vs loc' st'
      | .brk => k .next loc' st'
      | .ret u => k (.ret u) loc' st'))
    (done : ∀ loc st, J [] loc st → k .next loc st) {v : V} {val : Value} {items : List V} (h0 : J items loc st) (hR : R w os₀ f.h₀ f.L f.outs loc st ρ s) (hv : VR ρ v val) (e : iterV v = some items)
    {Rr : Result → Shared → Prop} (q : PS w os₀ f ρ k fun fv => Rr (.ok fv)) :
    wpAny (model prog w) f.A (pyIter val) (fun it s₂ => codeAny (model prog w) f.A (.forLoop (.Name x px) it body [] f.env) Rr s₂) E s := by
  refine iter_wp hR hf.handled hv e fun o fp P Si W hS0 => ?_
  obtain ⟨o₀, ho₀⟩ := W.alive 0 _ hS0
  refine codeAny_forLoop (fun n s' => ∃ i loc' st' ρ' o', ForAt w os₀ f ρ s.heap.objs.size items J Si n s' i loc' st' ρ' o') ?_ (items.length + 1)
    ⟨0, loc, st, ρ, o₀, Nat.zero_le _, rfl, hS0, h0, .refl _, hR.rawIn (tk := s.toks) push_keeps (size_none (Nat.le_refl _)) ho₀ (Nat.le_refl _)⟩
  rintro n s' ⟨i, loc', st', ρ', o', X⟩
  rw [X.n]
  have hR' := X.R
  by_cases hlt : i < items.length
  · refine wpAny_with_toks (n := s'.toks) (Nat.le_refl _) (W.walks.item i s' _ _ hlt X.at_ fun y h' tk hP hS' hk htk => ?_)
    obtain ⟨o₂, ho₂⟩ := W.alive _ _ hS'
    have hR₂ := (hR'.rawTurn (tk := tk) (fun b x hb e => hk b x (fun h => hb (List.mem_singleton.mp h)) e) htk).1 o₂ ho₂
    have hJ := X.J
    rw [List.drop_eq_getElem_cons hlt] at hJ
    show wpAny _ _ (assign (.Name x px) f.env y) _ _ _
    refine wpAny_assign_Name (hR₂.store (env := f.env) ((W.vals i y hP _ (List.getElem?_eq_getElem hlt)).mono X.lab) rfl hf.kind hx (hf.loc _ hx) fun s₃ hR₃ => ?_)
    have again : ∀ loc₄ st₄ ρ₄ s₄, J (items.drop (i + 1)) loc₄ st₄ → LabLe ρ' ρ₄ → R w os₀ f.h₀ f.L { f.outs with raw := (s.heap.objs.size, o₂) :: f.outs.raw } loc₄ st₄ ρ₄ s₄ → ∃ m, m < items.length + 1 - i ∧ ∃ i loc' st' ρ' o', ForAt w os₀ f ρ s.heap.objs.size items J Si m s₄ i loc' st' ρ' o' := fun loc₄ st₄ ρ₄ s₄ hk₄ le₄ hR₄ =>
      ⟨_, less_turn hlt, i + 1, loc₄, st₄, ρ₄, o₂, hlt, rfl, W.frame hS' ho₂ hR₄.rawAt (fun p hp => hR₂.imAt (X.lab.im _ hp)) (fun p hp => hR₄.imAt (le₄.im _ (X.lab.im _ hp))), hk₄, X.lab.trans le₄, hR₄⟩
    have out : ∀ {loc₄ st₄ ρ₄ s₄}, R w os₀ f.h₀ f.L { f.outs with raw := (s.heap.objs.size, o₂) :: f.outs.raw } loc₄ st₄ ρ₄ s₄ → R w os₀ f.h₀ f.L f.outs loc₄ st₄ ρ₄ s₄ := fun hR₄ => (hR₄.rawTurn (fun _ _ _ e => e) (Nat.le_refl _)).2
    refine turn ((s.heap.objs.size, o₂) :: f.outs.raw) items[i] (items.drop (i + 1)) loc' st' hJ ρ' s₃ _ _ hR₃ fun fl loc₄ st₄ ρ₄ fv s₄ hk₄ le₄ hR₄ hfl => ?_
    cases hfl with
    | next => exact again _ _ _ _ hk₄ le₄ hR₄
    | cont => exact again _ _ _ _ hk₄ le₄ hR₄
    | brk => exact q _ _ _ _ _ _ hk₄ (X.lab.trans le₄) (out hR₄) .next
    | ret hu => exact q _ _ _ _ _ _ hk₄ (X.lab.trans le₄) (out hR₄) (.ret hu)
  · have hie : i = items.length := Nat.le_antisymm X.le (Nat.not_lt.mp hlt)
    have hJ := X.J
    rw [hie, List.drop_length] at hJ
    refine wpAny_with_toks (n := s'.toks) (Nat.le_refl _) (W.walks.done s' _ _ (hie ▸ X.at_) fun h' tk hk htk => ?_)
    exact wpAny_execs_nil (q _ _ _ _ _ _ (done _ _ hJ) X.lab (hR'.rawTurn (tk := tk) (fun b x hb e => hk b x (fun h => hb (List.mem_singleton.mp h)) e) htk).2 .next)
end
end Mine
end
section
open PySem PySem.W PyProof.Rows PySem.Calls PySem.SeqAt
set_option Elab.async false
set_option maxRecDepth 100000
set_option genSizeOf false
set_option genInjectivity false
namespace Mine
theorem any_hasS (x : Str) (ys : List Str) : (ys.any (· == x)) = hasS x ys := by
  induction ys with
  | nil => rfl
  | cons y r ih =>
    show (y == x || r.any (· == x)) = (match sEq x y with | true => true | false => hasS x r)
    cases h : sEq x y with
    | true => rw [sEq_iff.mp h, beq_self_eq_true, Bool.true_or]
    | false => rw [beq_eq_false_iff_ne.mpr (sEq_false h).symm, Bool.false_or]; exact ih
section
variable {prog : Program} {w : World} {K : Frag} {mg mb : Str → Option Value} {os₀ : Glo} {Γ : Gam} {X n : Nat} {r : RunF}

theorem lit_spliced {env : Env} {pos : Pos} {A : Around} {E : Value → Shared → Prop} {elts : List Expr} : ∀ {ys : List Str}, litStrs elts = some ys → ∀ {s : Shared} {Q : List Value → Shared → Prop},
    (∀ vals tk, s.toks ≤ tk → StrsAre vals ys → vals.length = ys.length → Q vals { s with toks := tk }) → wpAny (model prog w) A (spliced (backTo pos (starEach elts env))) Q E s := by
  induction elts with
  | nil => intro ys e s Q q; have e := Option.some.inj e; subst e; exact spliced_none (q [] s.toks (Nat.le_refl _) .nil rfl)
  | cons e rest ih =>
    intro ys
    show (match asText e with | some x => (match litStrs rest with | some l => some (x.1 :: l) | none => none) | none => none) = some ys → _
    cases h1 : asText e with
    | none => exact fun h => no' h
    | some x =>
      show (match litStrs rest with | some l => some (x.1 :: l) | none => none) = some ys → _
      cases h2 : litStrs rest with
      | none => exact fun h => no' h
      | some l =>
        intro h s Q q
        rw [← Option.some.inj h] at q
        rw [asText_ok h1]
        exact spliced_more (Constant_str (ih h2 fun vals tk htk hv hn => q _ tk (Nat.le_trans (Nat.le_succ _) htk) (.cons x.1 s.toks hv) (congrArg (· + 1) hn)))
theorem sound_And (ih : Sound prog w K mg mb os₀ X n r) (f : FD) (F : Fit K mg mb X n f) {loc : Loc} {pos : Pos} {whole : Sem Value} {xs : List Expr} : ∀ {p : Path} {st : St} {k : Path → Bool → St → Prop} {k' : Bool → St → Prop}, stAnd r f.cs.names loc p st xs k → (∀ p c st, k p c st → k' c st) →
    ∀ (ρ : Lab) (s : Shared) (Q : Bool → Shared → Prop) (Ex : Value → Shared → Prop), R w os₀ f.h₀ f.L f.outs loc st ρ s → PT w os₀ f loc ρ k' Q → wpAny (model prog w) f.A (isTrue (.BoolOp .And xs pos) f.env whole) Q Ex s := by
  induction xs with
  | nil => exact fun h hk ρ s Q Ex hR q => isTrue_and_nil (q _ _ _ _ (hk _ _ _ h) (.refl _) hR)
  | cons e es IH =>
    intro p st k k' h hk ρ s Q Ex hR q
    refine isTrue_and (ih.T f F (k' := fun c st => ∃ p, bb c (stAnd r f.cs.names loc p st es k) (k p false st)) h (fun p c st h => ⟨p, h⟩) ρ s _ Ex hR fun c st' ρ' s' ⟨p, h⟩ le hR' => ?_)
    cases c with
    | true => exact IH h hk ρ' s' Q Ex hR' (q.trans le)
    | false => exact q _ _ _ _ (hk _ _ _ h) le hR'
theorem sound_Or (ih : Sound prog w K mg mb os₀ X n r) (f : FD) (F : Fit K mg mb X n f) {loc : Loc} {pos : Pos} {whole : Sem Value} {xs : List Expr} : ∀ {p : Path} {st : St} {k : Path → Bool → St → Prop} {k' : Bool → St → Prop}, stOr r f.cs.names loc p st xs k → (∀ p c st, k p c st → k' c st) →
    ∀ (ρ : Lab) (s : Shared) (Q : Bool → Shared → Prop) (Ex : Value → Shared → Prop), R w os₀ f.h₀ f.L f.outs loc st ρ s → PT w os₀ f loc ρ k' Q → wpAny (model prog w) f.A (isTrue (.BoolOp .Or xs pos) f.env whole) Q Ex s := by
  induction xs with
  | nil => exact fun h hk ρ s Q Ex hR q => isTrue_or_nil (q _ _ _ _ (hk _ _ _ h) (.refl _) hR)
  | cons e es IH =>
    intro p st k k' h hk ρ s Q Ex hR q
    refine isTrue_or (ih.T f F (k' := fun c st => ∃ p, bb c (k p true st) (stOr r f.cs.names loc p st es k)) h (fun p c st h => ⟨p, h⟩) ρ s _ Ex hR fun c st' ρ' s' ⟨p, h⟩ le hR' => ?_)
    cases c with
    | true => exact q _ _ _ _ (hk _ _ _ h) le hR'
    | false => exact IH h hk ρ' s' Q Ex hR' (q.trans le)
theorem inTup_ok {op : CmpOp} {x : Expr} {ys : List Str} (h : inTup op x = some ys) : op = .In ∧ ∃ l k p, x = .Tuple l k p ∧ litStrs l = some ys ∧ ys.length ≤ sizeLine := by
  cases op with
  | In =>
    have h : (match tupElts x with | some l => (match litStrs l with | some ys => (match Nat.ble ys.length 100 with | true => some ys | false => none) | none => none) | none => none) = some ys := h
    cases x with
    | Tuple l k p =>
      have h : (match litStrs l with | some ys => (match Nat.ble ys.length 100 with | true => some ys | false => none) | none => none) = some ys := h
      cases e : litStrs l with
      | none => rw [e] at h; exact no' h
      | some zs =>
        rw [e] at h
        have h : (match Nat.ble zs.length 100 with | true => some zs | false => none) = some ys := h
        cases e2 : Nat.ble zs.length 100 with
        | false => rw [e2] at h; exact no' h
        | true =>
          rw [e2] at h
          exact ⟨rfl, l, k, p, rfl, e.trans h, Option.some.inj h ▸ Nat.le_trans (Nat.le_of_ble_eq_true e2) (by rw [sizeLine_eq]; decide)⟩
    | _ => exact no' h
  | _ => exact no' h
theorem sound_TCmp (hX : X ≤ 900) (ih : Sound prog w K mg mb os₀ X n r) (f : FD) (F : Fit K mg mb X n f) {p : Path} {loc : Loc} {st : St} {l x : Expr} {op : CmpOp} {pos : Pos} {k : Path → Bool → St → Prop} {k' : Bool → St → Prop} (h : stTCmp r f.cs.names p loc st l op x k) (hk : ∀ p c st, k p c st → k' c st) : TT prog w os₀ f (.Compare l [op] [x] pos) loc st k' := by
  intro ρ s Q Ex hR q
  unfold stTCmp at h
  cases e : inTup op x with
  | some ys =>
    rw [e] at h
    obtain ⟨eo, elts, kk, pp, ex, hys, hz⟩ := inTup_ok e
    subst eo ex
    refine wpAny_isTrue_Compare1 (ih.Ex F h ρ s _ Ex hR fun a st₁ ρ₁ va s₁ ⟨p, h⟩ le₁ hR₁ ha => ?_)
    obtain ⟨x, hx, h⟩ := sf_ok h
    obtain ⟨p', h⟩ := dec_ok h
    rw [asS_ok hx] at ha
    obtain ⟨t, e, _⟩ := ha.inv
    rw [e]
    refine Tuple_ (lit_spliced hys fun vals tk htk hv hn => ?_)
    refine wpAny_newObj_type ?_ (by show vals.toArray.size ≤ sizeLine; rw [List.size_toArray, hn]; exact hz)
    refine in_tuple_strs (items := vals.toArray) (ys := ys) ⟨_, Heap.get?_push_size _ rfl, rfl, 0, rfl⟩ hv ?_
    rw [any_hasS]
    exact wpAny_truthy_bool (q _ _ _ _ (hk _ _ _ h) le₁ (hR₁.grown (fun b o e => Heap.get?_push_of_some _ e) htk))
  | none =>
    rw [e] at h
    obtain ⟨hns, h⟩ := ef_ok h
    refine wpAny_isTrue_Compare1 (ih.Ex F h ρ s _ Ex hR fun a st₁ ρ₁ va s₁ ⟨p, h⟩ le₁ hR₁ ha => ih.Ex F h ρ₁ s₁ _ Ex hR₁ fun b st₂ ρ₂ vb s₂ ⟨p, h⟩ le₂ hR₂ hb => ?_) (noSet_marks hns)
    refine stCmp_sound h hR₂ (booked_keeps F.ok.gd.booked hR₂.keep) (ha.mono le₂) hb (F.line70 hX) fun c h => ?_
    obtain ⟨p', h⟩ := dec_ok h
    exact wpAny_truthy_bool (q _ _ _ _ (hk _ _ _ h) (le₁.trans le₂) hR₂)
/-- the truth of a plain value -/
theorem TT.plain {f : FD} {e : Expr} {loc : Loc} {st : St} {k : Bool → St → Prop} (hp : ∀ whole, isTrue e f.env whole = (do let v ← whole; standAt e.pos; holding [v] (truthy v))) (h : TE prog w os₀ f e loc st fun v st => ∃ c, truthV st v = some c ∧ k c st) : TT prog w os₀ f e loc st k := fun ρ s _ Ex hR q =>
  isTrue_plain (h ρ s _ Ex hR fun _ _ _ _ _ ⟨_, hc, hk⟩ le₁ hR₁ hv => truth_sound hc hv hR₁ fun tk htk => q _ _ _ _ hk le₁ (hR₁.toks tk htk)) (hp _)
theorem sound_Plain (ih : Sound prog w K mg mb os₀ X n r) (f : FD) (F : Fit K mg mb X n f) {p : Path} {loc : Loc} {st : St} {e : Expr} {k : Path → Bool → St → Prop} {k' : Bool → St → Prop} (hp : ∀ whole, isTrue e f.env whole = (do let v ← whole; standAt e.pos; holding [v] (truthy v))) (h : stPlain r f.cs.names p loc st e k) (hk : ∀ p c st, k p c st → k' c st) : TT prog w os₀ f e loc st k' :=
  .plain hp (ih.E f F h fun p v st h => by
    obtain ⟨c, hc, h⟩ := sf_ok h
    obtain ⟨p', h⟩ := dec_ok h
    exact ⟨c, hc, hk _ _ _ h⟩)
theorem sound_T (hX : X ≤ 900) (ih : Sound prog w K mg mb os₀ X n r) (f : FD) (F : Fit K mg mb X (n + 1) f) {p : Path} {loc : Loc} {st : St} {e : Expr} {k : Path → Bool → St → Prop} {k' : Bool → St → Prop} (h : stT r f.cs.names p loc st e k) (hk : ∀ p c st, k p c st → k' c st) : TT prog w os₀ f e loc st k' := by
  cases e with
  | UnaryOp op x pos =>
    obtain ⟨hu, h⟩ := ef_ok h
    rw [isNot_ok hu]
    intro ρ s Q Ex hR q
    refine isTrue_not (ih.T f F.pred (k' := fun c st => ∃ p, bb c (k p false st) (k p true st)) h (fun p c st h => ⟨p, h⟩) ρ s _ Ex hR fun c st' ρ' s' ⟨p, h⟩ le hR' => ?_)
    cases c <;> exact q _ _ _ _ (hk _ _ _ h) le hR'
  | BoolOp op xs pos => cases op with
    | And => exact sound_And ih f F.pred h hk
    | Or => exact sound_Or ih f F.pred h hk
  | Compare l ops xs pos =>
    obtain ⟨op, h1, h⟩ := sf_ok h
    obtain ⟨x, h2, h⟩ := sf_ok h
    rw [one_ok h1, one_ok h2]
    exact sound_TCmp hX ih f F.pred h hk
  | Name x pos => exact sound_Plain ih f F.pred (fun _ => rfl) h hk
  | Attribute o x pos => exact sound_Plain ih f F.pred (fun _ => rfl) h hk
  | Call fn args kws pos => exact sound_Plain ih f F.pred (fun _ => rfl) h hk
  | _ => exact h.elim

theorem sound_Set (O : Γ.Ok prog w K X) (f : FD) (hf : f.Ok K mg mb) {loc : Loc} {st : St} {ov v : V} {name : Str} {k : St → Prop} (h : stSet Γ st ov name v k) {ρ : Lab} {s : Shared} {Q : Unit → Shared → Prop} {Ex : Value → Shared → Prop} {oval val : Value} (hR : R w os₀ f.h₀ f.L f.outs loc st ρ s) (ho : VR ρ ov oval) (hv : VR ρ v val)
    (q : ∀ st' s', k st' → R w os₀ f.h₀ f.L f.outs loc st' ρ s' → Q () s') : wpAny (model prog w) f.A (setAttr oval name val) Q Ex s := by
  obtain ⟨⟨j, C, as⟩, e, h⟩ := sf_ok h
  obtain ⟨hp, h9⟩ := ef_ok h
  obtain ⟨e, o, ho', e2⟩ := atO_ok e
  have e : ov = .ref j := e
  have ho' : getO j st.objs = some (.inst C as) := ho'.trans (congrArg some (instO_ok e2))
  subst e
  have hp := Bool.and_eq_true_iff.mp hp
  obtain ⟨l, h1, h2⟩ := isPlain_ok hp.1
  exact hR.setPlain hf.gd.inK ho' (O.plain C l h1 name h2) (Nat.le_of_ble_eq_true hp.2) ho hv fun s' hR' => q _ _ h9 hR'

theorem iterV_items {v : V} {vs : List V} (h : itemsV v = some vs) : iterV v = some vs := by
  cases v <;> first | exact h | exact no' h
theorem folded_plain {e : Expr} {env : Env} (h : noSet e = true) (x : Value) : foldedSetIterable e env x = pure x := by
  cases e <;> first | rfl | exact absurd h Bool.false_ne_true
theorem aug_plain {i : Expr} (h : plainIdx i = true) (ov iv new : Value) : augStore i ov iv new = (do holding [new, ov, iv] (setItem ov iv new); release [new, ov, iv] []; pure .next) := by
  cases i <;> first | rfl | exact absurd h Bool.false_ne_true
theorem putA_same {x : Str} {v : V} {l : Loc} (h : getA x l = some v) (y : Str) : getA y (putA x v l) = getA y l := by
  rw [getA_putA]
  cases e : sEq y x with
  | true => rw [sEq_iff.mp e, h]
  | false => rfl
theorem R.weak {h₀ : Heap} {L : Addr} {outs : Fx} {loc loc' : Loc} {st : St} {ρ : Lab} {s : Shared} (r : R w os₀ h₀ L outs loc st ρ s) (h : ∀ y v, getA y loc' = some v → getA y loc = some v) : R w os₀ h₀ L outs loc' st ρ s := by
  obtain ⟨m, F, hm⟩ := r.fr
  exact ⟨⟨m, F, fun y v e => hm y v (h y v e)⟩, r.led, r.free, r.os, r.gens, r.tok⟩
theorem R.reput {h₀ : Heap} {L : Addr} {outs : Fx} {loc : Loc} {st : St} {ρ : Lab} {s : Shared} {x : Str} {v : V} (r : R w os₀ h₀ L outs (putA x v loc) st ρ s) (h : getA x loc = some v) : R w os₀ h₀ L outs loc st ρ s :=
  r.weak fun y u e => (putA_same h y).trans e
/-! statements -/
theorem sound_Asg (ih : Sound prog w K mg mb os₀ X n r) (f : FD) (F : Fit K mg mb X n f) {p : Path} {loc : Loc} {st : St} {x : Str} {xp pos : Pos} {e : Expr} {kd : NameKind} {k : Path → Fl → Loc → St → Prop} {k' : Fl → Loc → St → Prop} (hc : noComp e = true) (hkd : getA x f.cs.names = some kd) (h : stAsg Γ r f.cs.names p loc st x e k kd) (hk : ∀ p fl loc st, k p fl loc st → k' fl loc st) : TS prog w os₀ f (.Assign [.Name x xp] e pos) loc st k' := by
  intro ρ s Q Ex hR q
  have hx := kindOf_of hkd
  cases kd with
  | «local» =>
    have h : (match isEmptyList e && hasS x Γ.intv with | true => _ | false => _) := h
    cases hem : isEmptyList e && hasS x Γ.intv with
    | true =>
      rw [hem] at h
      obtain ⟨pl, el⟩ := isEmptyList_ok (Bool.and_eq_true_iff.mp hem).1
      subst el
      refine wpAny_Assign_Name (List_ (spliced_nil (wpAny_newObj_type ?_))) (swap_plain hc)
      obtain ⟨ρ', le, hof, hR'⟩ := hR.new1 (tk := s.toks) (x := .nums []) push_keeps (Heap.get?_push_size _ rfl) (fun ρ' _ => .nums (n := 0) (xs := []) .nil (Nat.zero_le _)) (Nat.le_refl _)
      exact hR'.store (env := f.env) (.ref hof) rfl F.ok.kind hx (F.ok.loc _ hx) fun s' hR₂ => q _ _ _ _ _ _ (hk _ _ _ _ h) le hR₂ .next
    | false =>
      rw [hem] at h
      exact wpAny_Assign_Name (ih.Ex F h ρ s _ Ex hR fun v st₁ ρ₁ val s₁ ⟨p, h⟩ le₁ hR₁ hv => hR₁.store (env := f.env) hv rfl F.ok.kind hx (F.ok.loc _ hx) fun s' hR' => q _ _ _ _ _ _ (hk _ _ _ _ h) le₁ hR' .next) (swap_plain hc)
  | cell =>
    refine wpAny_Assign_Name (ih.Ex F h ρ s _ Ex hR fun v st₁ ρ₁ val s₁ ⟨p, h⟩ le₁ hR₁ hv => ?_) (swap_plain hc)
    obtain ⟨u, hu, h⟩ := sf_ok h
    obtain ⟨y, hy, h⟩ := sf_ok h
    obtain ⟨e, o, ho, hv₀⟩ := atO_ok hy
    obtain ⟨c, hcl⟩ := F.ok.cel _ hx
    exact hR₁.storeCell (env := f.env) hv F.ok.kind hx hcl rfl (e ▸ hu) (cellIn_ok hv₀ ▸ ho) fun s' hR' => q _ _ _ _ _ _ (hk _ _ _ _ h) le₁ hR' .next
  | _ => exact h.elim
theorem sound_Asg0 (O : Γ.Ok prog w K X) (ih : Sound prog w K mg mb os₀ X n r) (f : FD) (F : Fit K mg mb X n f) {p : Path} {loc : Loc} {st : St} {t e : Expr} {pos : Pos} {k : Path → Fl → Loc → St → Prop} {k' : Fl → Loc → St → Prop} (hc : noComp e = true) (h : stAsg0 Γ r f.cs.names p loc st t e k) (hk : ∀ p fl loc st, k p fl loc st → k' fl loc st) : TS prog w os₀ f (.Assign [t] e pos) loc st k' := by
  unfold stAsg0 at h
  cases et : asName t with
  | some x =>
    rw [et] at h
    obtain ⟨kd, hkd, h⟩ := sf_ok h
    rw [asName_ok et]
    exact sound_Asg ih f F hc hkd h hk
  | none =>
    rw [et] at h
    obtain ⟨a, ha, h⟩ := sf_ok h
    rw [asAttr_ok ha]
    intro ρ s Q Ex hR q
    exact plainObj_wpAny_Assign_Attribute (ih.Ex F h ρ s _ Ex hR fun v st₁ ρ₁ val s₁ ⟨p, h⟩ le₁ hR₁ hv => ih.Ex F h ρ₁ s₁ _ Ex hR₁ fun ov st₂ ρ₂ oval s₂ ⟨p, h⟩ le₂ hR₂ hov =>
      sound_Set O f F.ok h hR₂ hov (hv.mono le₂) fun st' s' g hR' => q _ _ _ _ _ _ (hk _ _ _ _ g) (le₁.trans le₂) hR' .next) (swap_plain hc)
theorem sound_AugA (O : Γ.Ok prog w K X) (ih : Sound prog w K mg mb os₀ X n r) (f : FD) (F : Fit K mg mb X (n + 1) f) {p : Path} {loc : Loc} {st : St} {a : AttrE} {op : Operator} {e : Expr} {pos : Pos} {k : Path → Fl → Loc → St → Prop} {k' : Fl → Loc → St → Prop} (h : stAugA Γ r f.cs.names p loc st a op e k) (hk : ∀ p fl loc st, k p fl loc st → k' fl loc st) : TS prog w os₀ f (.AugAssign (.Attribute a.o a.name a.pos) op e pos) loc st k' := by
  obtain ⟨hop, h⟩ := ef_ok h
  rw [isAdd_ok hop]
  intro ρ s Q Ex hR q
  refine wpAny_AugAssign_AttributeAny (ih.Ex F.pred h ρ s _ Ex hR fun ov st₁ ρ₁ oval s₁ ⟨p, h⟩ le₁ hR₁ hov => ?_)
  refine sound_Attr O ih f F h (k' := fun v st => ∃ p, r.E f.cs.names p loc st e _) (fun p v st h => ⟨p, h⟩) hR₁ hov fun old st₂ ρ₂ oldv s₂ ⟨p, h⟩ le₂ hR₂ hold => ?_
  refine ih.Ex F.pred h ρ₂ s₂ _ Ex hR₂ fun v st₃ ρ₃ val s₃ ⟨p, h⟩ le₃ hR₃ hv => ?_
  obtain ⟨x, hx, h⟩ := sf_ok h
  have h := andO_ok h
  exact iadd_sound hx h.1 (hold.mono le₃) hv fun nv tk htk hnv => sound_Set O f F.ok h.2 (hR₃.toks tk htk) (hov.mono (le₂.trans le₃)) hnv fun st' s' g hR' => q _ _ _ _ _ _ (hk _ _ _ _ g) (le₁.trans (le₂.trans le₃)) hR' .next
theorem sound_AugN (ih : Sound prog w K mg mb os₀ X n r) (f : FD) (F : Fit K mg mb X n f) {p : Path} {loc : Loc} {st : St} {x : Str} {xp pos : Pos} {op : Operator} {e : Expr} {k : Path → Fl → Loc → St → Prop} {k' : Fl → Loc → St → Prop} (h : stAugN r f.cs.names p loc st x op e k) (hk : ∀ p fl loc st, k p fl loc st → k' fl loc st) : TS prog w os₀ f (.AugAssign (.Name x xp) op e pos) loc st k' := by
  obtain ⟨hop, h⟩ := ef_ok h
  obtain ⟨kd, hkd, h⟩ := sf_ok h
  obtain ⟨hl, h⟩ := ef_ok h
  obtain ⟨u, hu, h⟩ := sf_ok h
  rw [isAdd_ok hop]
  rw [isLocal_ok hl] at hkd
  have hx := kindOf_of hkd
  intro ρ s Q Ex hR q
  obtain ⟨m, M, hm⟩ := hR.fr
  obtain ⟨oval, hmo, hov⟩ := (hm _ _ hu).get (F.ok.loc _ hx)
  refine wpAny_AugAssign_Name (wpAny_loadName_local (env := f.env) F.ok.kind hx M.ns hmo ?_)
  refine ih.Ex F h ρ s _ Ex hR fun v st₁ ρ₁ val s₁ ⟨p, h⟩ le₁ hR₁ hv => ?_
  obtain ⟨y, hy, h⟩ := sf_ok h
  obtain ⟨ms, hms, h⟩ := sf_ok h
  obtain ⟨eu, o, ho, hn⟩ := atO_ok hy
  rw [triOf_ok hms] at hv
  rw [numsIn_ok hn] at ho
  rw [eu] at hu hov
  refine iadd_wp hR₁ ho h.1 (hov.mono le₁) hv fun s₂ hR₂ => ?_
  exact hR₂.store (env := f.env) (hov.mono le₁) rfl F.ok.kind hx (F.ok.loc _ hx) fun s' hR' => q _ _ _ _ _ _ (hk _ _ _ _ h.2) le₁ (hR'.reput hu) .next
/-- an item of a list of ints, as it lies -/
theorem nums_item {h₀ : Heap} {L : Addr} {outs : Fx} {loc : Loc} {st : St} {ρ : Lab} {s : Shared} (hR : R w os₀ h₀ L outs loc st ρ s) {j : Nat} {ns : List Int} {i : Int} {u : Tok} {oval : Value} (ho : getO j st.objs = some (.nums ns)) (hov : VR ρ (.ref j) oval) (h0 : 0 ≤ i) (hi : i < (ns.length : Int)) {A : Around} {E : Value → Shared → Prop} {Q : Value → Shared → Prop}
    (q : ∀ t, Q (.int (getN 0 i.toNat ns) t) s) : wpAny (model prog w) A (getItem oval (.int i u)) Q E s := by
  obtain ⟨a, xs, n1, X⟩ := hR.shown (vs := ns.map .int) hov (by show (match getO j st.objs with | some o => showO o | none => none) = _; rw [ho]; rfl)
  have hz := X.sz
  rw [sizeLine_eq, List.length_map] at hz
  obtain ⟨y, hy, hvy⟩ := X.vr.get (i := i.toNat) (v := .int (getN 0 i.toNat ns)) (by rw [List.getElem?_map, getN_get 0 ((Int.toNat_lt h0).mpr hi)]; rfl)
  obtain ⟨t, e⟩ := hvy.inv
  rw [X.e]
  exact wpAny_getItem_list (isList_of X.at_) h0 (by omega) (List.getElem?_toArray.trans hy) (e ▸ q t)
theorem sound_AugI (f : FD) {p : Path} {loc : Loc} {st : St} {i : Expr} (hpl : plainIdx i = true) {op : Operator} {ov iv : V} {d : Int} {kk : Nat} {dp pos : Pos} {o : Expr} {op' : Pos} {k : Path → Fl → Loc → St → Prop} {k' : Fl → Loc → St → Prop} (h : TE prog w os₀ f o loc st fun ov st => TE prog w os₀ f i loc st fun iv st => ∃ p, stAugI p loc st op ov iv d k) (hk : ∀ p fl loc st, k p fl loc st → k' fl loc st) : TS prog w os₀ f (.AugAssign (.Subscript o i op') op (.Constant (.int d) kk dp) pos) loc st k' := by
  intro ρ s Q Ex hR q
  refine wpAny_AugAssign_SubscriptAny (h ρ s _ Ex hR fun ov st₁ ρ₁ oval s₁ h le₁ hR₁ hov => ?_) (aug_plain hpl)
  refine h ρ₁ s₁ _ Ex hR₁ fun iv st₂ ρ₂ ival s₂ ⟨p, h⟩ le₂ hR₂ hiv => ?_
  obtain ⟨y, hy, h⟩ := sf_ok h
  obtain ⟨n, hn, ⟨h0, hi⟩, h⟩ := sf_ok h
  obtain ⟨v, hv, h⟩ := sf_ok h
  obtain ⟨eu, o, ho, hy⟩ := atO_ok hy
  rw [numsIn_ok hy] at ho
  rw [asI_ok hn] at hiv
  have hov := hov.mono le₂
  rw [eu] at hov
  obtain ⟨t, e⟩ := hiv.inv
  rw [e]
  refine nums_item hR₂ ho hov h0 hi fun u => ?_
  refine (show wpAny _ _ (eval (.Constant (.int d) _ _) f.env) _ _ _ from fun _ _ _ => ?_)
  have fin : wpAny (model prog w) f.A (setItem oval (.int n t) (.int v (s₂.toks + 1))) (fun _ s' => Q .next s') Ex { s₂ with toks := s₂.toks + 1 + 1 } :=
    set_wp (hR₂.toks _ (Nat.le_add_right _ 2)) ho h0 hi hov (.int _ _) fun s' hR' => q _ _ _ _ _ _ (hk _ _ _ _ h) (le₁.trans le₂) hR' .next
  cases op with
  | Add => rw [← Option.some.inj hv] at fin; exact iadd_int fin
  | Sub => rw [← Option.some.inj hv] at fin; exact isub_int fin
  | _ => exact no' hv
theorem sound_Aug (O : Γ.Ok prog w K X) (ih : Sound prog w K mg mb os₀ X n r) (f : FD) (F : Fit K mg mb X (n + 1) f) {p : Path} {loc : Loc} {st : St} {t e : Expr} {op : Operator} {pos : Pos} {k : Path → Fl → Loc → St → Prop} {k' : Fl → Loc → St → Prop} (h : stAug Γ r f.cs.names p loc st t op e k) (hk : ∀ p fl loc st, k p fl loc st → k' fl loc st) : TS prog w os₀ f (.AugAssign t op e pos) loc st k' := by
  unfold stAug at h
  cases e1 : asAttr t with
  | some a => rw [e1] at h; rw [asAttr_ok e1]; exact sound_AugA O ih f F h hk
  | none =>
    rw [e1] at h
    have h : (match asName t with | some x => _ | none => _) := h
    cases e2 : asName t with
    | some x => rw [e2] at h; rw [asName_ok e2]; exact sound_AugN ih f F.pred h hk
    | none =>
      rw [e2] at h
      obtain ⟨a, ha, h⟩ := sf_ok h
      obtain ⟨d, hd, h⟩ := sf_ok h
      obtain ⟨hp, h⟩ := ef_ok h
      rw [asSub_ok ha, asInt_ok hd]
      exact sound_AugI f (Bool.and_eq_true_iff.mp hp).1 (ov := .none) (iv := .none) (p := p) (ih.E f F.pred h fun p ov st h => ih.Ex F.pred h) hk
theorem sound_For (ih : Sound prog w K mg mb os₀ X n r) (f : FD) (F : Fit K mg mb X n f) {p : Path} {loc : Loc} {st : St} {x : Str} {xp pos : Pos} {it : Expr} {b : List Stmt} {k : Path → Fl → Loc → St → Prop} {k' : Fl → Loc → St → Prop} (hx : getA x f.cs.names = some .local) (hns : noSet it = true) (h : r.E f.cs.names p loc st it (fun p v st => sf (itemsV v) fun vs => forG r f.cs.names x b vs p loc st k)) (hk : ∀ p fl loc st, k p fl loc st → k' fl loc st) : TS prog w os₀ f (.For (.Name x xp) it b [] pos) loc st k' := by
  intro ρ s Q Ex hR q
  refine wpAny_For (ih.Ex F h ρ s _ Ex hR fun v st₁ ρ₁ val s₁ ⟨p, h⟩ le₁ hR₁ hv => ?_) (fun x => folded_plain hns x)
  obtain ⟨vs, hvs, h⟩ := sf_ok h
  refine for_core (J := fun vs loc st => ∃ p, forG r f.cs.names x b vs p loc st k) (k := k') F.ok (kindOf_of hx) ?_ (fun loc st ⟨p, h⟩ => hk _ _ _ _ h) ⟨p, h⟩ hR₁ hv (iterV_items hvs) (q.trans le₁)
  intro raw v vs loc st ⟨p, h⟩
  refine ih.B (f.withRaw raw) (F.raw raw) h fun p fl loc st g => ?_
  cases fl with
  | next => exact ⟨p, g⟩
  | cont => exact ⟨p, g⟩
  | brk => exact hk _ _ _ _ g
  | ret u => exact hk _ _ _ _ g
theorem sound_If (ih : Sound prog w K mg mb os₀ X n r) (f : FD) (F : Fit K mg mb X n f) {p : Path} {loc : Loc} {st : St} {t : Expr} {b o : List Stmt} {pos : Pos} {k : Path → Fl → Loc → St → Prop} {k' : Fl → Loc → St → Prop} (h : r.T f.cs.names p loc st t (fun p c st => bb c (r.B f.cs.names p loc st b k) (r.B f.cs.names p loc st o k))) (hk : ∀ p fl loc st, k p fl loc st → k' fl loc st) : TS prog w os₀ f (.If t b o pos) loc st k' := by
  intro ρ s Q Ex hR q
  refine wpAny_If (ih.T f F (k' := fun c st => match c with | true => TB prog w os₀ f b loc st k' | false => TB prog w os₀ f o loc st k') h (fun p c st h => by cases c <;> exact ih.B f F h hk) ρ s _ Ex hR fun c st₁ ρ₁ s₁ h₁ le₁ hR₁ => ?_)
  cases c <;> exact h₁ ρ₁ s₁ Q Ex hR₁ (q.trans le₁)
theorem sound_S (O : Γ.Ok prog w K X) (ih : Sound prog w K mg mb os₀ X n r) (f : FD) (F : Fit K mg mb X (n + 1) f) {p : Path} {loc : Loc} {st : St} {x : Stmt} {k : Path → Fl → Loc → St → Prop} {k' : Fl → Loc → St → Prop} (h : stS Γ r f.cs.names p loc st x k) (hk : ∀ p fl loc st, k p fl loc st → k' fl loc st) : TS prog w os₀ f x loc st k' := by
  cases x with
  | Expr e pos =>
    obtain ⟨hc, h⟩ := ef_ok h
    exact fun ρ s Q Ex hR q => wpAny_Expr_any (ih.E f F.pred h (k' := fun _ st => k' .next loc st) (fun p _ st h => hk _ _ _ _ h) ρ s _ Ex hR fun v st₁ ρ₁ val s₁ h₁ le₁ hR₁ hv => q _ _ _ _ _ _ h₁ le₁ hR₁ .next) (by show (f.cs.kind == .module && _) = false; rw [F.ok.kind]; rfl) (swap_plain hc)
  | Pass pos => exact fun ρ s Q Ex hR q => wpAny_Pass (q _ _ _ _ _ _ (hk _ _ _ _ h) (.refl _) hR .next)
  | Break pos => exact fun ρ s Q Ex hR q => wpAny_Break (q _ _ _ _ _ _ (hk _ _ _ _ h) (.refl _) hR .brk)
  | Continue pos => exact fun ρ s Q Ex hR q => wpAny_Continue (q _ _ _ _ _ _ (hk _ _ _ _ h) (.refl _) hR .cont)
  | Return o pos => cases o with
    | none => exact fun ρ s Q Ex hR q => wpAny_Return_none (q _ _ _ _ _ _ (hk _ _ _ _ h) (.refl _) hR (.ret .none))
    | some e => exact fun ρ s Q Ex hR q => wpAny_Return_some (ih.E f F.pred h (k' := fun v st => k' (.ret v) loc st) (fun p _ st h => hk _ _ _ _ h) ρ s _ Ex hR fun v st₁ ρ₁ val s₁ h₁ le₁ hR₁ hv => q _ _ _ _ _ _ h₁ le₁ hR₁ (.ret hv))
  | Assign ts e pos =>
    obtain ⟨t, ht, h⟩ := sf_ok h
    obtain ⟨hc, h⟩ := ef_ok h
    rw [one_ok ht]
    exact sound_Asg0 O ih f F.pred hc h hk
  | AugAssign t op e pos => exact sound_Aug O ih f F h hk
  | For t it b els pos =>
    obtain ⟨x, hx, h⟩ := sf_ok h
    obtain ⟨kd, hkd, h⟩ := sf_ok h
    obtain ⟨hg, h⟩ := ef_ok h
    have hg := Bool.and_eq_true_iff.mp hg
    have hg2 := Bool.and_eq_true_iff.mp hg.2
    rw [asName_ok hx, List.isEmpty_iff.mp hg.1]
    exact sound_For ih f F.pred (isLocal_ok hg2.1 ▸ hkd) hg2.2 h hk
  | If t b o pos => exact sound_If ih f F.pred h hk
  | _ => exact h.elim

theorem sound (hX : X ≤ 900) (O : Γ.Ok prog w K X) (n : Nat) : Sound prog w K mg mb os₀ X n (run Γ n) := by
  induction n with
  | zero => exact ⟨fun _ _ _ _ _ _ _ _ h => h.elim, fun _ _ _ _ _ _ _ _ h => h.elim, fun _ _ _ _ _ _ _ _ _ _ _ _ h => h.elim, fun _ _ _ _ _ _ _ _ h => h.elim, fun _ _ _ _ _ _ _ _ h => h.elim⟩
  | succ n ih => exact ⟨fun f F => sound_E hX O ih f F, fun f F => sound_T hX ih f F, fun f hf _ F => sound_U hX O ih f hf F, fun f F => sound_S O ih f F, fun f F => sound_B ih f F⟩
end
end Mine
end
section
open PySem PySem.W PyProof.Rows PySem.Calls
set_option Elab.async false
set_option maxRecDepth 100000
set_option genSizeOf false
set_option genInjectivity false
namespace Mine

/-! the tables' rows, made of the written part -/
noncomputable def bodyOf : FuncBody → List Stmt
  | .stmts b => b
  | .expr _ => []
noncomputable def fdAt (K : Frag) (f : Addr) : FuncData := match K.lookup f with
  | some o => (match o.data with | .func fd => fd | _ => default)
  | none => default
noncomputable def mkFn (K : Frag) (f n : Nat) (kws : List Str) (bind : List (Str × Src)) : FnI := ⟨f, n, kws, bind, bodyOf (fdAt K f).body, (fdAt K f).scope, (fdAt K f).qualname, (fdAt K f).code, cellNames (fdAt K f).scope.names⟩
noncomputable def nodupS : List Str → Bool
  | [] => true
  | x :: r => !(hasS x r) && nodupS r
theorem nodupS_ok {l : List Str} : nodupS l = true → l.Nodup := by
  induction l with
  | nil => exact fun _ => .nil
  | cons x r ih =>
    intro h
    have h := Bool.and_eq_true_iff.mp (show (!(hasS x r) && nodupS r) = true from h)
    refine List.nodup_cons.mpr ⟨fun hm => ?_, ih h.2⟩
    rw [hasS_of_mem hm] at h
    exact absurd h.1 Bool.false_ne_true
noncomputable def isCell : NameKind → Bool
  | .cell => true
  | _ => false
noncomputable def notFree : NameKind → Bool
  | .free => false
  | _ => true
theorem notFree_ok {k : NameKind} (h : notFree k = true) : k ≠ .free := fun e => by rw [e] at h; exact absurd h Bool.false_ne_true
noncomputable def cellsGood (names : List (Str × NameKind)) : Bool := (cellNames names).all (fun x => match getA x names with | some k => isCell k | none => false) && nodupS (cellNames names)
noncomputable def fdOf (o : Obj) : Option FuncData := match o.data with | .func fd => some fd | _ => none
noncomputable def isStmts : FuncBody → Bool
  | .stmts _ => true
  | .expr _ => false
noncomputable def isFunction : ScopeKind → Bool
  | .function => true
  | _ => false
noncomputable def fdGood (K : Frag) (f : Addr) (fd : FuncData) : Bool := isStmts fd.body && (Nat.beq fd.globals mainGlobals && (fd.closure.isEmpty && (Nat.beq fd.builtins builtinsNs && (!fd.scope.isCoroutine && (!fd.scope.isGenerator && (isFunction fd.scope.kind &&
      (((fd.scope.names.all (fun x => notFree x.2)) && cellsGood fd.scope.names) && (codeIn K fd.code fd.qualname && keepIn K (.ref f)))))))))
noncomputable def fnGood (K : Frag) (f : Addr) : Bool := match K.lookup f with
  | some o => (match fdOf o with | some fd => fdGood K f fd | none => false)
  | none => false
theorem fdOf_ok {o : Obj} {fd : FuncData} (h : fdOf o = some fd) : o.data = .func fd := by
  unfold fdOf at h
  cases e : o.data <;> rw [e] at h <;> first | exact no' h | exact congrArg Data.func (Option.some.inj h)
theorem fd_eq {fd : FuncData} {b : List Stmt} (h1 : fd.body = .stmts b) (h2 : fd.globals = mainGlobals) (h3 : fd.closure = []) (h4 : fd.builtins = builtinsNs) : fnOf fd.name fd.qualname fd.params b fd.scope fd.defaults fd.kwdefaults fd.doc fd.pyModule fd.annotations fd.code fd.closureTuple = fd := by
  obtain ⟨a1, a2, a3, a4, a5, a6, a7, a8, a9, a10, a11, a12, a13, a14, a15⟩ := fd
  subst h1 h2 h3 h4
  rfl
theorem fn_ok0 {K : Frag} {f n : Nat} {kws : List Str} {bind : List (Str × Src)} {oc : Value} {od : Option Addr} {osl : Array (Option Value)} {fd : FuncData} {b : List Stmt} (hlook : K.lookup f = some ⟨oc, od, .func fd, osl⟩) (hbody : fd.body = .stmts b) (hg : fdGood K f fd = true)
    (hb : ∀ (S : Setting) (vals kvals : List Value), vals.length = n → kvals.length = kws.length → peek K S (bindArgs fd ⟨vals, kws.zip kvals⟩) = some (bind.map fun b => (b.1, b.2.val vals kvals)))
    (hl : (bind.all fun b => match getA b.1 fd.scope.names with | some .local => true | some .cell => true | _ => false) = true) (hn : (bind.map (·.1)).Nodup)
    (hc : ∀ b ∈ bind, match b.2 with | .const v val => VR0 v val | _ => True) : FnOk K ⟨f, n, kws, bind, b, fd.scope, fd.qualname, fd.code, cellNames fd.scope.names⟩ := by
  have g1 := Bool.and_eq_true_iff.mp hg
  have g2 := Bool.and_eq_true_iff.mp g1.2
  have g3 := Bool.and_eq_true_iff.mp g2.2
  have g4 := Bool.and_eq_true_iff.mp g3.2
  have g5 := Bool.and_eq_true_iff.mp g4.2
  have g6 := Bool.and_eq_true_iff.mp g5.2
  have g7 := Bool.and_eq_true_iff.mp g6.2
  have g8 := Bool.and_eq_true_iff.mp g7.2
  have g9 := Bool.and_eq_true_iff.mp g8.1
  have g10 := Bool.and_eq_true_iff.mp g8.2
  have g11 := Bool.and_eq_true_iff.mp g9.2
  have e0 := fd_eq hbody (beq_eq g2.1) (List.isEmpty_iff.mp g3.1) (beq_eq g4.1)
  refine ⟨g10.2, ⟨oc, od, osl, fd.name, fd.params, fd.defaults, fd.kwdefaults, fd.doc, fd.pyModule, fd.annotations, fd.closureTuple, ?_⟩, g10.1, fun b' hb' => ?_, hn, ?_, ?_, ?_, rfl, nodupS_ok g11.2, fun {x} h1 h2 => ?_, fun x hx => notFree_ok (List.all_eq_true.mp g9.1 x hx), hc⟩
  · show K.lookup f = some ⟨oc, od, .func (fnOf fd.name fd.qualname fd.params b fd.scope fd.defaults fd.kwdefaults fd.doc fd.pyModule fd.annotations fd.code fd.closureTuple), osl⟩ ∧ ∀ (s : Shared) (vals kvals : List Value), K.In s.heap → vals.length = n → kvals.length = kws.length →
      BindsTo s (fnOf fd.name fd.qualname fd.params b fd.scope fd.defaults fd.kwdefaults fd.doc fd.pyModule fd.annotations fd.code fd.closureTuple) ⟨vals, kws.zip kvals⟩ (bind.map fun b => (b.1, b.2.val vals kvals))
    rw [e0]
    exact ⟨hlook, fun s vals kvals X h1 h2 M A E Q q => (Looks.of_peek X (hb ⟨M.prog, M.w.params⟩ vals kvals h1 h2)).here q⟩
  · have := List.all_eq_true.mp hl b' hb'
    show fd.scope.names.lookup b'.1 = some .local ∨ (fd.scope.names.lookup b'.1 = some .cell ∧ b'.1 ∈ cellNames fd.scope.names)
    rw [lookup_getA]
    revert this
    cases e : getA b'.1 fd.scope.names with
    | none => exact fun h => absurd h Bool.false_ne_true
    | some k => cases k with
      | «local» => exact fun _ => .inl rfl
      | cell => exact fun _ => .inr ⟨rfl, cellNames_mem (getA_mem e)⟩
      | _ => exact fun h => absurd h Bool.false_ne_true
  · exact (Bool.not_eq_true' _).mp g5.1
  · exact (Bool.not_eq_true' _).mp g6.1
  · have h := g7.1
    show fd.scope.kind = .function
    revert h
    cases fd.scope.kind with
    | function => exact fun _ => rfl
    | _ => exact fun h => absurd h Bool.false_ne_true
  · have h1 : getA x fd.scope.names = some .local := (lookup_getA _ _).symm.trans h1
    have := List.all_eq_true.mp g11.1 x h2
    rw [h1] at this
    exact absurd this Bool.false_ne_true
theorem fn_ok {K : Frag} {f n : Nat} {kws : List Str} {bind : List (Str × Src)} (hg : fnGood K f = true)
    (hb : ∀ (S : Setting) (vals kvals : List Value), vals.length = n → kvals.length = kws.length → peek K S (bindArgs (fdAt K f) ⟨vals, kws.zip kvals⟩) = some (bind.map fun b => (b.1, b.2.val vals kvals)))
    (hl : (bind.all fun b => match getA b.1 (fdAt K f).scope.names with | some .local => true | some .cell => true | _ => false) = true) (hn : (bind.map (·.1)).Nodup)
    (hc : ∀ b ∈ bind, match b.2 with | .const v val => VR0 v val | _ => True) : FnOk K (mkFn K f n kws bind) := by
  unfold fnGood at hg
  cases hlook : K.lookup f with
  | none => rw [hlook] at hg; exact absurd hg Bool.false_ne_true
  | some o =>
    rw [hlook] at hg
    have hg : (match fdOf o with | some fd => fdGood K f fd | none => false) = true := hg
    cases ho : fdOf o with
    | none => rw [ho] at hg; exact absurd hg Bool.false_ne_true
    | some fd =>
      rw [ho] at hg
      have hd := fdOf_ok ho
      obtain ⟨oc, od, dt, osl⟩ := o
      have hd : dt = .func fd := hd
      subst hd
      have hfd : fdAt K f = fd := by unfold fdAt; rw [hlook]
      unfold mkFn
      rw [hfd] at hb hl ⊢
      have hs := (Bool.and_eq_true_iff.mp hg).1
      cases hbody : fd.body with
      | expr e => rw [hbody] at hs; exact absurd hs Bool.false_ne_true
      | stmts b => exact fn_ok0 hlook hbody hg hb hl hn hc
noncomputable def plainOk (K : Frag) (C : Addr) (x : Str) : Bool := plainGet K C x && (hasDictIn K C && ((match findIn K (.ref C) x with | some attr => noGet K attr | none => false) && ((findIn K (.ref C) "__setattr__" == some (some (.builtin "object.__setattr__"))) && (plainOver K C && (takerIn K C x == some none)))))
theorem plain_ok {K : Frag} {C : Addr} {x : Str} (h : plainOk K C x = true) : PlainAttr K C x := by
  have g1 := Bool.and_eq_true_iff.mp h
  have g2 := Bool.and_eq_true_iff.mp g1.2
  have g3 := Bool.and_eq_true_iff.mp g2.2
  have g4 := Bool.and_eq_true_iff.mp g3.2
  have g5 := Bool.and_eq_true_iff.mp g4.2
  refine ⟨g1.1, g2.1, ?_, beq_iff_eq.mp g4.1, g5.1, beq_iff_eq.mp g5.2⟩
  have h3 := g3.1
  cases e : findIn K (.ref C) x with
  | none => rw [e] at h3; exact absurd h3 Bool.false_ne_true
  | some attr => rw [e] at h3; exact ⟨attr, rfl, h3⟩
noncomputable def methOk (K : Frag) (C : Addr) (x : Str) (f : Addr) : Bool := plainGet K C x && ((findIn K (.ref C) x == some (some (.ref f))) && (isFn K (.ref f) && keepIn K (.ref f)))
theorem meth_ok' {K : Frag} {C : Addr} {x : Str} {f : Addr} (h : methOk K C x f = true) : MethAttr K C x f := by
  have g1 := Bool.and_eq_true_iff.mp h
  have g2 := Bool.and_eq_true_iff.mp g1.2
  have g3 := Bool.and_eq_true_iff.mp g2.2
  exact ⟨g1.1, beq_iff_eq.mp g2.1, g3.1, g3.2⟩
noncomputable def headRef : Option (List Value) → Option (Addr × List Value)
  | some (v :: r) => (match v with | .ref g => some (g, r) | _ => none)
  | _ => none
theorem headRef_ok {o : Option (List Value)} {x : Addr × List Value} (h : headRef o = some x) : o = some (.ref x.1 :: x.2) := by
  cases o with
  | none => exact no' h
  | some l => cases l with
    | nil => exact no' h
    | cons v r => cases v with
      | ref g => exact Option.some.inj h ▸ rfl
      | _ => exact no' h
noncomputable def propOk (K : Frag) (C : Addr) (x : Str) (p f : Addr) : Bool := plainGet K C x && (hasDictIn K C && ((findIn K (.ref C) x == some (some (.ref p))) && ((specialIn K (.ref p) "__get__" == some (some (.builtin "property.__get__"))) && ((takesIn K (.ref p) == some true) && (match headRef (recIn K p "property") with | some y => Nat.beq y.1 f | none => false)))))
theorem prop_ok {K : Frag} {C : Addr} {x : Str} {p f : Addr} (h : propOk K C x p f = true) : PropAttr K C x f := by
  have g1 := Bool.and_eq_true_iff.mp h
  have g2 := Bool.and_eq_true_iff.mp g1.2
  have g3 := Bool.and_eq_true_iff.mp g2.2
  have g4 := Bool.and_eq_true_iff.mp g3.2
  have g5 := Bool.and_eq_true_iff.mp g4.2
  have h6 := g5.2
  cases e : headRef (recIn K p "property") with
  | none => rw [e] at h6; exact absurd h6 Bool.false_ne_true
  | some y => rw [e] at h6; exact ⟨g1.1, g2.1, p, y.2, beq_iff_eq.mp g3.1, beq_iff_eq.mp g4.1, beq_iff_eq.mp g5.1, by rw [headRef_ok e, beq_eq h6]⟩
end Mine
end
section
open PySem PySem.W PyProof.Rows PySem.Calls PySem.SeqAt
set_option Elab.async false
set_option maxRecDepth 100000
namespace Mine
section
variable {prog : Program} {w : World} {K : Frag} {mg mb : Str → Option Value} {os₀ : Glo} {Γ : Gam} {X n : Nat} {f : FD} {loc : Loc} {st : St}
theorem TB.mono {b : List Stmt} {k k' : Fl → Loc → St → Prop} (h : TB prog w os₀ f b loc st k) (hk : ∀ fl loc' st', k fl loc' st' → k' fl loc' st') : TB prog w os₀ f b loc st k' :=
  fun ρ s Q Ex hR q => h ρ s Q Ex hR fun fl loc' st' ρ' fv s' h1 => q fl loc' st' ρ' fv s' (hk _ _ _ h1)
theorem TB.nil {k : Fl → Loc → St → Prop} (h : k .next loc st) : TB prog w os₀ f [] loc st k :=
  fun _ _ _ _ hR q => wpAny_execs_nil (q _ _ _ _ _ _ h (.refl _) hR .next)
theorem TB.cons {x : Stmt} {b : List Stmt} {k : Fl → Loc → St → Prop} (h : TS prog w os₀ f x loc st (fun fl loc' st' => match fl with | .next => TB prog w os₀ f b loc' st' k | fl => k fl loc' st')) : TB prog w os₀ f (x :: b) loc st k := by
  intro ρ s Q Ex hR q
  refine wpAny_execs_cons (h ρ s _ Ex hR fun fl loc' st' ρ' fv s' hk le hR' hfl => ?_)
  cases hfl with
  | next => exact hk ρ' s' Q Ex hR' fun fl₂ loc₂ st₂ ρ₂ fv₂ s₂ h₂ le₂ hR₂ hfl₂ => q _ _ _ _ _ _ h₂ (le.trans le₂) hR₂ hfl₂
  | brk => exact q _ _ _ _ _ _ hk le hR' .brk
  | cont => exact q _ _ _ _ _ _ hk le hR' .cont
  | ret hv => exact q _ _ _ _ _ _ hk le hR' (.ret hv)
theorem TB.of_run (hX : X ≤ 900) (O : Γ.Ok prog w K X) (hf : f.Ok K mg mb) (hd : f.A.depth + n + 10 < X) (hu : f.A.units + 10 * n + 30 < 10 * X) {p : Path} {b : List Stmt} {k : Fl → Loc → St → Prop} (h : (run Γ n).B f.cs.names p loc st b (fun _ => k)) : TB prog w os₀ f b loc st k :=
  (sound (mg := mg) (mb := mb) (os₀ := os₀) hX O n).B f ⟨hf, hd, hu⟩ h fun _ _ _ _ h => h
theorem TS.of_run (hX : X ≤ 900) (O : Γ.Ok prog w K X) (hf : f.Ok K mg mb) (hd : f.A.depth + n + 10 < X) (hu : f.A.units + 10 * n + 30 < 10 * X) {p : Path} {x : Stmt} {k : Fl → Loc → St → Prop} (h : (run Γ n).S f.cs.names p loc st x (fun _ => k)) : TS prog w os₀ f x loc st k :=
  (sound (mg := mg) (mb := mb) (os₀ := os₀) hX O n).S f ⟨hf, hd, hu⟩ h fun _ _ _ _ h => h

/-- a loop that only its own break or return ends -/
theorem TS.forever {c : Nat} {cp pos : Pos} {body : List Stmt} {k : Fl → Loc → St → Prop} (I : Nat → Loc → St → Prop) (n₀ : Nat) (h0 : I n₀ loc st)
    (turn : ∀ n loc st, I n loc st → TB prog w os₀ f body loc st (fun fl loc' st' => match fl with
      | .next => ∃ m, m < n ∧ I m loc' st'
      | .cont => ∃ m, m < n ∧ I m loc' st'
      | .brk => k .next loc' st'
      | .ret v => k (.ret v) loc' st')) : TS prog w os₀ f (.While (.Constant (.bool true) c cp) body [] pos) loc st k := by
  intro ρ s Q Ex hR q
  refine wpAny_While (codeAny_whileLoop (fun n s' => ∃ loc' st' ρ', I n loc' st' ∧ LabLe ρ ρ' ∧ R w os₀ f.h₀ f.L f.outs loc' st' ρ' s') ?_ n₀ ⟨loc, st, ρ, h0, .refl _, hR⟩)
  rintro n s' ⟨loc', st', ρ', hI, le, hR'⟩
  refine isTrue_plain (show wpAny _ _ (eval (.Constant (.bool true) c cp) f.env) _ _ _ from fun _ _ _ => wpAny_truthy_bool ?_) rfl
  show wpAny (model prog w) f.A (execs body f.env) _ _ s'
  refine turn n loc' st' hI ρ' s' _ _ hR' fun fl loc₂ st₂ ρ₂ fv s₂ hk le₂ hR₂ hfl => ?_
  cases hfl with
  | next => obtain ⟨m, hm, hI₂⟩ := hk; exact ⟨m, hm, loc₂, st₂, ρ₂, hI₂, le.trans le₂, hR₂⟩
  | cont => obtain ⟨m, hm, hI₂⟩ := hk; exact ⟨m, hm, loc₂, st₂, ρ₂, hI₂, le.trans le₂, hR₂⟩
  | brk => exact q _ _ _ _ _ _ hk (le.trans le₂) hR₂ .next
  | ret hv => exact q _ _ _ _ _ _ hk (le.trans le₂) hR₂ (.ret hv)
/-- a def's contract, of its body's -/
theorem spec_of (hX : X ≤ 900) {i : FnI} (I : FnOk K i) (hk : i.kws = []) (hcl : i.cell = []) {sp : List V → St → (V → St → Prop) → Prop} (hl : ∀ vs st k, sp vs st k → vs.length = i.n)
    (h : ∀ (mg mb : Str → Option Value) (os₀ : Glo) (f : FD), f.Ok K mg mb → f.cs = i.sc → f.A.depth < X + 1 → f.A.units < 10 * X + 3 → ∀ vs st k, sp vs st k →
      TB prog w os₀ f i.body (i.bind.map fun b => (b.1, b.2.v vs [])) st (fun fl _ st' => match fl with | .ret v => k v st' | .next => k .none st' | _ => False)) :
    SpecOk prog w K X i.f sp := by
  refine ⟨.of I.keep, ?_⟩
  intro mg mb os₀ f hf A' hfr hh hd hu vs st k hsp loc ρ s vals Rr hR hv q
  have e0 : i.kws.zip ([] : List Value) = [] := by simp
  rw [← e0]
  refine callR I f hf hfr hh (by unfold recursionLimit; omega) hR hv .nil (hl _ _ _ hsp) (by rw [hk]; rfl) ?_
  intro f' f'ok hcs hdep hun _ ρ₁ s₁ le₁ hR₁ back
  have e1 : fnLoc i st.next vs [] = i.bind.map fun b => (b.1, b.2.v vs []) := by unfold fnLoc; rw [hcl]
  have e2 : fnSt i st vs [] = st := by unfold fnSt; rw [hcl]
  rw [e1, e2] at hR₁
  refine h mg mb os₀ f' f'ok hcs (by omega) (by omega) vs st k hsp ρ₁ _ _ _ hR₁ ?_
  intro fl loc' st₂ ρ' fv s' hk' le hR' hfl
  have le := le₁.trans le
  have hR₃ := back _ _ _ _ le hR'
  cases hfl with
  | next => exact q _ _ _ _ _ hk' le hR₃ .none
  | brk => exact hk'.elim
  | cont => exact hk'.elim
  | ret hx => exact q _ _ _ _ _ hk' le hR₃ hx
end
end Mine
end
section
open PySem PySem.W PyProof.Rows PySem.Calls
set_option Elab.async false
set_option maxRecDepth 100000
namespace Mine
/-! a class whose __new__ is a def of its own, that hands on to object.__new__ -/
section
variable {prog : Program} {w : World} {K : Frag} {mg mb : Str → Option Value} {C fN fI pN : Addr} {oc : Value} {od : Option Addr} {cd : ClassData} {sl : Array (Option Value)}
/-- object.__new__ of a class -/
theorem objnew {A : Around} {R : Result → Shared → Prop} {h : Heap} {g : Array GenState} {d : Drawn} {t : Nat} {os : OsState} (X : K.In h) (hC : K.lookup C = some ⟨oc, od, .cls cd, sl⟩) (e1 : cd.abstract = false) (e2 : cd.hasDel = false)
    (hbase : ∀ S, peek K S (Bind.staticBase (.ref C)) = some (.type "object")) (hmb : ∀ S, peek K S (Bind.madeBy (.type "object")) = some (some "object.__new__")) (htop : subIn K (.ref C) (.type "object") = some true) (htyp : instIn K (.ref C) (.type "type") = some true)
    (hq : R (.ok (.ret (.ref (h.objs.size + 1)))) ⟨(h.push emptyDict).push (instObj C h.objs.size), g, d, t, os⟩) :
    codeAny (model prog w) A (.call (.builtin "object.__new__") ⟨[.ref C], []⟩) R ⟨h, g, d, t, os⟩ := by
  have F := PySem.F.objNew
  refine codeAny_call_builtin_code (Code.quiet_builtin _ F.quiet) ?_
  simp only [checkBuiltinCall, F.kind, F.split, F.row]
  have base : Looks (model prog w) h (Bind.staticBase (.ref C)) (.type "object") := Looks.of_peek X (hbase _)
  have made : Looks (model prog w) h (Bind.madeBy (.type "object")) (some "object.__new__") := Looks.of_peek X (hmb _)
  have here : Looks (model prog w) h (Bind.madeHere "object.__new__" (.ref C)) () := base.andThen (made.andThen (Looks.of_pure (by simp only [Option.map_some, bne_self_eq_false, Bool.false_eq_true, if_false])))
  have top : Looks (model prog w) h (isSubtype (.ref C) (.type "object")) true := looks_subIn X htop
  have typ : Looks (model prog w) h (isInstance (.ref C) (.type "type")) true := looks_instIn X htyp
  have hC := X _ _ hC
  have args : Bind.checkArgs "object.__new__" ⟨.hand, "object.__new__", "__new__", .cls, []⟩ ⟨[.ref C], []⟩ = pure () := by kernel_rfl
  rw [args]
  repeat (first | simp only [bne_self_eq_false, Bool.false_eq_true, if_false] | lk)
  refine codeAny_builtin F.entry ?_
  unfold Builtin.«object.__new__»
  have fin : ∀ A', wpAny (model prog w) A' (do
      let d ← if typeHasDict (.ref C) then some <$> alloc { cls := .type "dict", data := .dict #[] } else pure none
      ret (← newObj (.ref C) .plain d)) (fun fin s' => match fin with | .done f => R (.ok f) s' | .again c' => c'.quiet = true ∧ codeAny (model prog w) A c' R s') (fun e s' => R (.error e) s') ⟨h, g, d, t, os⟩ := by
    intro A'
    show wpAny _ _ ((alloc emptyDict >>= fun x => pure (some x)) >>= _) _ _ _
    refine wpAny_bind (wpAny_bind (wpAny_alloc (wpAny_pure (wpAny_bind ?_))))
    show wpAny _ _ (newObjAsIs _ _ _) _ _ _
    unfold newObjAsIs classHasDel
    refine wpAny_bind (wpAny_alloc (wpAny_bind (wpAny_bind (wpAny_load (Heap.get?_push_of_some _ (Heap.get?_push_of_some _ hC)) (wpAny_pure ?_)))))
    rw [e2]
    refine wpAny_pure (wpAny_pure ?_)
    show R _ _
    rw [Heap.size_push]
    exact hq
  repeat (first | simp only [e1, Bool.false_eq_true, if_false] | exact fin _ | lk)
/-- the body of that def -/
theorem newbody {A : Around} {g : Heap} {L a : Addr} {m : Str → Option Value} {cn : Str} {cs : Scope} {ccd : Value} {h : Heap} {gn : Array GenState} {d : Drawn} {t : Nat} {os : OsState} {Q : Flow → Shared → Prop} {E : Value → Shared → Prop}
    (F : Fr g L h m) (G : Gd K mg mb g) (hm : m (Str.ofString "cls") = some (.ref C)) (hk : cs.kind = .function)
    (hC : K.lookup C = some ⟨oc, od, .cls cd, sl⟩) (hoc : oc ≠ .type "tuple") (e1 : cd.abstract = false) (e2 : cd.hasDel = false)
    (hbase : ∀ S, peek K S (Bind.staticBase (.ref C)) = some (.type "object")) (hmb : ∀ S, peek K S (Bind.madeBy (.type "object")) = some (some "object.__new__")) (htop : subIn K (.ref C) (.type "object") = some true) (htyp : instIn K (.ref C) (.type "type") = some true)
    {B : Addr} {oB : Obj} (hB : K.lookup B = some oB) (hBC : C ≠ B) (hl : cs.names.lookup (Str.ofString "cls") = some .local)
    {nA nB : Str} (hnA : cs.names.lookup nA = some .globalImplicit) (hnB : cs.names.lookup nB = some .globalImplicit) (hno : cs.names.lookup (Str.ofString "object") = some .globalImplicit)
    (hgA : nsIn K mainGlobals nA = some (some (.ref B))) (hgB : nsIn K mainGlobals nB = some (some (.ref C))) (hgo : nsIn K mainGlobals (Str.ofString "object") = some none) (hdA : (nA == ("__debug__" : Str)) = false) (hdB : (nB == ("__debug__" : Str)) = false)
    (hon : findCls K (.type "object") (.type "type") "__new__" = some (.val (.builtin "object.__new__")))
    {p1 p2 p3 p4 p5 p6 p7 p8 p9 p10 p11 p12 p13 : Pos} {tb : List Stmt} (hap : p11.endLine = p12.line)
    (hq : ∀ tk, Q (.ret (.ref (h.objs.size + 1))) ⟨(h.push emptyDict).push (instObj C h.objs.size), gn, d, tk, os⟩) :
    wpAny (model prog w) A (execs [.If (.BoolOp .And [.Compare (.Name (Str.ofString "cls") p1) [.IsNot] [.Name nA p2] p3, .Compare (.Name (Str.ofString "cls") p4) [.IsNot] [.Name nB p5] p6] p7) tb [] p8,
      .Return (some (.Call (.Attribute (.Name (Str.ofString "object") p10) (Str.ofString "__new__") p11) [.Name (Str.ofString "cls") p9] [] p12)) p13] (envX cn cs L a ccd [])) Q E ⟨h, gn, d, t, os⟩ := by
  have G' := G.keeps F.keep
  have cls : ∀ {p : Pos} {Q : Value → Shared → Prop} {E : Value → Shared → Prop} {tk : Nat}, Q (.ref C) ⟨h, gn, d, tk, os⟩ → wpAny (model prog w) A (eval (.Name (Str.ofString "cls") p) (envX cn cs L a ccd [])) Q E ⟨h, gn, d, tk, os⟩ :=
    fun q => nameX_L (s := ⟨h, gn, d, _, os⟩) F hm q hk hl (by decide)
  have gl : ∀ {x : Str} {v : Value} {p : Pos} {Q : Value → Shared → Prop} {E : Value → Shared → Prop}, cs.names.lookup x = some .globalImplicit → nsIn K mainGlobals x = some (some v) → (x == ("__debug__" : Str)) = false → Q v ⟨h, gn, d, t, os⟩ → wpAny (model prog w) A (eval (.Name x p) (envX cn cs L a ccd [])) Q E ⟨h, gn, d, t, os⟩ :=
    fun h1 h2 h3 q => Name_function_global hk h1 (loadGlobal_global (env := envX cn cs L a ccd []) G'.g (mg_of G'.inK G'.g h2) q) h3
  refine wpAny_execs_cons (wpAny_If (isTrue_and (wpAny_isTrue_Compare1 (cls (gl hnA hgA hdA (kto_isnot (G'.inK _ _ hC) (G'.inK _ _ hB) hBC hoc (wpAny_truthy_bool ?_))))  (by rfl))))
  simp only [if_true]
  refine isTrue_and (wpAny_isTrue_Compare1 (cls (gl hnB hgB hdB (isnot_ref_same (wpAny_truthy_bool ?_)))) (by rfl))
  simp only [Bool.false_eq_true, if_false]
  refine wpAny_execs_nil ?_
  refine wpAny_execs_cons (wpAny_Return_some ?_)
  refine meth_call (hp := rfl) (hb := rfl) hap (by show 1 + 0 + 1 ≤ 29; omega) ?_
  refine Name_function_global hk hno (loadGlobal_builtin (env := envX cn cs L a ccd []) G'.g (mg_none_of G'.inK G'.g hgo) G'.b ((G'.builtins (Str.ofString "object") (by decide)).trans (show bootBuiltins (Str.ofString "object") = some (.type "object") by decide +kernel)) ?_) (by decide)
  show wpAny _ _ (getMethod (.type "object") (Str.ofString "__new__") _) _ _ _
  refine method_type (T := "object") (s := ⟨h, gn, d, t, os⟩) (name := Str.ofString "__new__") (v := .builtin "object.__new__") F G.inK meta_object (by decide +kernel) hon rfl ?_
  refine callWith_of (P := fun _ => True) rfl (fun h _ => ⟨.machine, .inr (.inl rfl), ?_⟩) ?_
  · exact Looks.of_pure rfl
  · refine evalArgs_kw2 rfl (spliced_more (cls (spliced_none (kwAll_nil ⟨trivial, ?_⟩)))) rfl
    exact wpAny_call (objnew G'.inK hC e1 e2 hbase hmb htop htyp (hq _))
/-- the def __new__(cls, /, *args, **kwargs), called with a class and one value -/
theorem newfn {A' : Around} {s : Shared} {v : Value} {Rr : Result → Shared → Prop} (hG : Gd K mg mb s.heap) (hd : A'.depth < recursionLimit)
    (hC : K.lookup C = some ⟨oc, od, .cls cd, sl⟩) (hoc : oc ≠ .type "tuple") (e1 : cd.abstract = false) (e2 : cd.hasDel = false)
    (hbase : ∀ S, peek K S (Bind.staticBase (.ref C)) = some (.type "object")) (hmb : ∀ S, peek K S (Bind.madeBy (.type "object")) = some (some "object.__new__")) (htop : subIn K (.ref C) (.type "object") = some true) (htyp : instIn K (.ref C) (.type "type") = some true)
    {B : Addr} {oB : Obj} (hB : K.lookup B = some oB) (hBC : C ≠ B)
    {fo : Obj} (hfo : K.lookup fN = some fo) {fd : FuncData} (hfd : fo.data = .func fd) {body : List Stmt} (hbody : fd.body = .stmts body) (hcode : codeIn K fd.code fd.qualname = true)
    (hbind : bindArgs fd ⟨[.ref C, v], []⟩ = (do let t ← newTuple [v]; let d ← alloc { cls := .type "dict", data := .dict #[] }; pure [((Str.ofString "cls"), .ref C), ((Str.ofString "args"), t), ((Str.ofString "kwargs"), .ref d)]))
    (hco : fd.scope.isCoroutine = false) (hgen : fd.scope.isGenerator = false) (hkind : fd.scope.kind = .function) (hcell : ∀ x ∈ fd.scope.names, x.2 ≠ .cell)
    (hclos : fd.closure = []) (hglob : fd.globals = mainGlobals) (hblt : fd.builtins = builtinsNs)
    (hl : ∀ x ∈ [(Str.ofString "cls"), (Str.ofString "args"), (Str.ofString "kwargs")], fd.scope.names.lookup x = some .local)
    {nA nB : Str} (hnA : fd.scope.names.lookup nA = some .globalImplicit) (hnB : fd.scope.names.lookup nB = some .globalImplicit) (hno : fd.scope.names.lookup (Str.ofString "object") = some .globalImplicit)
    (hgA : nsIn K mainGlobals nA = some (some (.ref B))) (hgB : nsIn K mainGlobals nB = some (some (.ref C))) (hgo : nsIn K mainGlobals (Str.ofString "object") = some none) (hdA : (nA == ("__debug__" : Str)) = false) (hdB : (nB == ("__debug__" : Str)) = false)
    (hon : findCls K (.type "object") (.type "type") "__new__" = some (.val (.builtin "object.__new__")))
    {p1 p2 p3 p4 p5 p6 p7 p8 p9 p10 p11 p12 p13 : Pos} {tb : List Stmt} (hap : p11.endLine = p12.line)
    (hb : body = [.If (.BoolOp .And [.Compare (.Name (Str.ofString "cls") p1) [.IsNot] [.Name nA p2] p3, .Compare (.Name (Str.ofString "cls") p4) [.IsNot] [.Name nB p5] p6] p7) tb [] p8,
      .Return (some (.Call (.Attribute (.Name (Str.ofString "object") p10) (Str.ofString "__new__") p11) [.Name (Str.ofString "cls") p9] [] p12)) p13])
    (hq : ∀ h' tk dx, (∀ b o, s.heap.get? b = some o → h'.get? b = some o) → h'.get? (dx + 1) = some (instObj C dx) → h'.get? dx = some (dictOf [] 0) → s.heap.objs.size ≤ dx → Rr (.ok (.ret (.ref (dx + 1)))) { s with heap := h', toks := tk }) :
    codeAny (model prog w) A' (.call (.ref fN) ⟨[.ref C, v], []⟩) Rr s := by
  refine codeAny_call_function hd (hG.inK _ _ hfo) hfd hco hgen hbody (codeRec_of hG.inK hcode) ?_
  rw [hbind]
  refine wpAny_bind (wpAny_newObj_type (wpAny_bind (wpAny_alloc (wpAny_pure ?_))))
  obtain ⟨h, gn, d, t, os⟩ := s
  dsimp only
  generalize hg : (h.push { cls := Value.type "tuple", data := Data.seq #[v] }).push { cls := Value.type "dict", data := Data.dict #[] } = g
  have k0 : ∀ b o, h.get? b = some o → g.get? b = some o := fun b o e => hg ▸ Heap.get?_push_of_some _ (Heap.get?_push_of_some _ e)
  have Gg : Gd K mg mb g := hG.keeps k0
  refine wpAny_newFunctionEnv hcell ?_ (fun h₁ hns hsb => ?_) hkind
  · intro x hx
    simp only [List.mem_cons, List.not_mem_nil, or_false] at hx
    rcases hx with rfl | rfl | rfl
    · exact hl _ (.head _)
    · exact hl _ (.tail _ (.head _))
    · exact hl _ (.tail _ (.tail _ (.head _)))
  · dsimp only at hns hsb ⊢
    have k1 : ∀ b o, g.get? b = some o → h₁.get? b = some o := fun b o e => (hsb.2 b (Nat.ne_of_lt (Heap.lt_size e))).trans (Heap.get?_push_of_some _ e)
    refine ⟨Gg.nolimit.keeps k1, codeAny_func ?_⟩
    rw [hb, hclos, hglob, hblt]
    refine newbody (L := g.objs.size) ⟨hns, k1, Nat.le_refl _⟩ Gg ?_ hkind hC hoc e1 e2 hbase hmb htop htyp hB hBC (hl _ (.head _)) hnA hnB hno hgA hgB hgo hdA hdB hon hap fun tk => ?_
    · rfl
    · refine hq _ _ _ (fun b o e => Heap.get?_push_of_some _ (Heap.get?_push_of_some _ (k1 _ _ (k0 _ _ e)))) ?_ ?_ ?_
      · rw [← Heap.size_push h₁ emptyDict]; exact Heap.get?_push_size _ rfl
      · exact Heap.get?_push_of_some _ (Heap.get?_push_size _ rfl)
      · obtain ⟨oL, _, _, hL, _⟩ := hns
        have e3 : g.objs.size < h₁.objs.size := Heap.lt_size hL
        have e : g.objs.size = h.objs.size + 2 := by rw [← hg, Heap.size_push, Heap.size_push]
        show h.objs.size ≤ h₁.objs.size
        rw [e] at e3
        omega
end
end Mine
end
section
open PySem PySem.W PyProof.Rows PySem.Calls
set_option Elab.async false
set_option maxRecDepth 100000
namespace Mine
section
variable {prog : Program} {w : World} {K : Frag} {C fN fI pN : Addr} {oc : Value} {od : Option Addr} {cd : ClassData} {sl : Array (Option Value)}
/-- a class's call, its __new__ an own def, in a slot of its own -/
theorem make_own {A : Around} {mc : Value} {rest0 : List Value} {vals : List Value} {kw : List (Str × Value)} {R : Result → Shared → Prop} {h₀ : Heap} {L : Addr} {m : Str → Option Value} {h : Heap} {g : Array GenState} {d : Drawn} {t : Nat} {os : OsState}
    (F : Fr h₀ L h m) (X₀ : K.In h₀) (hC : K.lookup C = some ⟨oc, od, .cls cd, sl⟩) (e4 : cd.mro.isEmpty = false)
    (hmade : ∀ S, peek K S (Bind.madeBy (.ref C)) = some none) (hself : subIn K (.ref C) (.ref C) = some true) (hcall : specialIn K (.ref C) "__call__" = some (some (.builtin "type.__call__"))) (htyp : instIn K (.ref C) (.type "type") = some true)
    (htc : typeIn K (.ref C) = some mc) (hrd : readsIn K C mc = true) (hfc : findCls K (.ref C) mc "__new__" = some (.get (.builtin "staticmethod.__get__") (.ref pN) .none (.ref C))) (hrec : recIn K pN "staticmethod" = some (.ref fN :: rest0))
    (hi : findIn K (.ref C) "__init__" = some (some (.ref fI))) (hf : typeIn K (.ref fI) = some (.type "function"))
    (hnew : ∀ Rr, (∀ h' tk dx, (∀ b o, h.get? b = some o → h'.get? b = some o) → h'.get? (dx + 1) = some (instObj C dx) → h'.get? dx = some (dictOf [] 0) → h.objs.size ≤ dx →
        Rr (.ok (.ret (.ref (dx + 1)))) ⟨h', g, d, tk, os⟩) → ∀ t, codeAny (model prog w) (A.under (.builtin "type.__call__" ⟨.ref C :: vals, kw⟩)) (.call (.ref fN) ⟨.ref C :: vals, kw⟩) Rr ⟨h, g, d, t, os⟩)
    (hq : ∀ h' tk dx, t ≤ tk → (∀ b o, h.get? b = some o → h'.get? b = some o) → h'.get? (dx + 1) = some (instObj C dx) → h'.get? dx = some (dictOf [] 0) → h.objs.size ≤ dx →
      codeAny (model prog w) (A.under (.builtin "type.__call__" ⟨.ref C :: vals, kw⟩)) (.call (.ref fI) ⟨.ref (dx + 1) :: vals, kw⟩) (InitBack (dx + 1) R) ⟨h', g, d, tk, os⟩) :
    codeAny (model prog w) A (.call (.ref C) ⟨vals, kw⟩) R ⟨h, g, d, t, os⟩ := by
  have X := X₀.keeps F.keep
  have hCo := X _ _ hC
  have call : Looks (model prog w) h (specialOf (.ref C) "__call__") (some (.builtin "type.__call__")) := looks_specialIn X hcall
  have typ : Looks (model prog w) h (isInstance (.ref C) (.type "type")) true := looks_instIn X htyp
  have made : Looks (model prog w) h (Bind.madeBy (.ref C)) none := Looks.of_peek X (hmade _)
  refine codeAny_of_tree ?_
  show wpAny _ _ (callAny (.ref C) _) _ _ _
  refine nd_load hCo ?_
  show wpAny _ _ (callAny.viaDunder (.ref C) _) _ _ _
  unfold callAny.viaDunder
  refine wpAny_bind (call.at ?_)
  dsimp only
  rw [tc_bind]
  refine wpAny_bind (wpAny_pure (wpAny_bind (wpAny_pure ?_)))
  refine wpAny_pure (a := Fin.again (.call (.builtin "type.__call__") ⟨.ref C :: vals, kw⟩)) (And.intro rfl ?_)
  refine codeAny_call_builtin_at (Code.quiet_builtin _ (by decide +kernel)) entry_typeCall (check_slot tc_kind tc_split typ (tc_args _ _ _) ?_)
  unfold Builtin.«type.__call__»
  have hm : Looks (model prog w) h (mroOf (.ref C)) cd.mro := ((Looks.ld (part := none) hCo).andThen .now).andThen .now
  repeat (first | (refine wpAny_bind (m := getAttr (.ref C) (Str.ofString "__new__") _) (cls_sm F X₀ htc hrd hfc hrec rfl ?_)) | (refine wpAny_bind (m := holding [.ref fN] (PySem.call (.ref fN) (.ref C :: vals) kw)) (wpAny_holding (wpAny_call ?_))) | simp only [e4, Bool.false_eq_true, if_false] | lk)
  refine codeAny_with_toks (n := t) (by first | exact Nat.le_refl _ | exact Nat.le_succ _ | (dsimp only; omega)) (hnew _ (fun h' tk dx k hx hdx hle htk => ?_) _)
  dsimp only
  have s1 : Looks (model prog w) h' (isSubtype (.ref C) (.ref C)) true := looks_subIn (X.keeps k) hself
  have i1 : Looks (model prog w) h' (typeLookup (.ref C) "__init__") (some (.ref fI)) := looks_findIn (X.keeps k) hi
  have b1 : Looks (model prog w) h' (bindSpecial (.ref fI) (.ref (dx + 1))) (.ref fI, [.ref (dx + 1)]) := bind_fn (X.keeps k) _ hf
  have t1 : Looks (model prog w) h' (typeOf (.ref (dx + 1))) (.ref C) := (Looks.ld hx).andThen .now
  unfold isInstance callSpecial? specialOf
  repeat (first | with_reducible refine wpAny_call ?_ | lk)
  refine codeAny_mono (hq h' tk dx htk k hx hdx hle) fun r s' z => ?_
  rcases r with e | (v | _ | _ | _) <;> first | exact z | exact z.elim | skip
  obtain ⟨rfl, z⟩ := z
  exact wpAny_pure (wpAny_pure z)
end
end Mine
end
section
open PySem PySem.W PyProof.Rows PySem.Calls
set_option Elab.async false
set_option maxRecDepth 100000
namespace Mine
noncomputable def tyOfV : V → Option String
  | .none => some "NoneType"
  | .bool _ => some "bool"
  | .int _ => some "int"
  | .str _ => some "str"
  | .flt _ => some "float"
  | _ => none
noncomputable def asTy : V → Option String
  | .ty n => some n
  | _ => none
theorem asTy_ok {v : V} {i : String} (e : asTy v = some i) : v = .ty i := by
  cases v with
  | ty j => exact congrArg V.ty (Option.some.inj e)
  | _ => exact no' e
/-- of one argument -/
noncomputable def on1 {α : Type} (g : V → Option α) (f : α → V) (vs : List V) : Option V := match one vs with
  | some v => (match g v with | some a => some (f a) | none => none)
  | none => none
theorem on1_ok {α : Type} {g : V → Option α} {f : α → V} {vs : List V} {r : V} (h : on1 g f vs = some r) : ∃ v a, one vs = some v ∧ g v = some a ∧ f a = r := by
  unfold on1 at h
  cases e : one vs with
  | none => rw [e] at h; exact no' h
  | some v =>
    rw [e] at h
    have h : (match g v with | some a => some (f a) | none => none) = some r := h
    cases e2 : g v with
    | none => rw [e2] at h; exact no' h
    | some a => rw [e2] at h; exact ⟨v, a, rfl, e2, Option.some.inj h⟩
/-- the first argument, and the others -/
noncomputable def hd1 {α : Type} (g : V → Option α) (f : α → List V → Option V) (vs : List V) : Option V := match vs with
  | [] => none
  | v :: r => (match g v with | some a => f a r | none => none)
theorem hd1_ok {α : Type} {g : V → Option α} {f : α → List V → Option V} {vs : List V} {x : V} {ρ : Lab} {vals : List Value} (h : hd1 g f vs = some x) (hv : VRs ρ vs vals) : ∃ v a r y ys, g v = some a ∧ f a r = some x ∧ vals = y :: ys ∧ VR ρ v y ∧ VRs ρ r ys := by
  cases vs with
  | nil => exact no' h
  | cons v r =>
    have h : (match g v with | some a => f a r | none => none) = some x := h
    obtain ⟨y, ys, e, h1, h2⟩ := hv.inv
    cases e2 : g v with
    | none => rw [e2] at h; exact no' h
    | some a => rw [e2] at h; exact ⟨v, a, r, y, ys, e2, h, e, h1, h2⟩
noncomputable def biLen : List V → Option V := on1 asS fun x => .int x.length
noncomputable def tyInt : List V → Option V := on1 asI .int
noncomputable def tyType : List V → Option V := on1 tyOfV .ty
noncomputable def yesV (n m : String) (b : Bool) : Option V := match decide (n = m) with | true => some (.bool b) | false => none
theorem yesV_ok {n m : String} {b : Bool} {v : V} (h : yesV n m b = some v) : n = m ∧ v = .bool b := by
  unfold yesV at h
  cases e : decide (n = m) with
  | true => rw [e] at h; exact ⟨of_decide_eq_true e, (Option.some.inj h).symm⟩
  | false => rw [e] at h; exact no' h
noncomputable def isiV (n : String) : V → Option V
  | .str _ => yesV n "str" true
  | .flt _ => yesV n "float" true
  | .int _ => yesV n "float" false
  | _ => none
noncomputable def biIsi : List V → Option V := hd1 some fun v r => match one r with
  | some t => (match asTy t with | some n => isiV n v | none => none)
  | none => none
theorem biLen_ok : BiOk (.builtin "len") biLen := by
  intro vs v e ρ vals hv prog w A E Q s hh hu q
  obtain ⟨u, x, e1, e2, e3⟩ := on1_ok e
  obtain ⟨y, e, hy⟩ := hv.one e1
  rw [asS_ok e2] at hy
  obtain ⟨t, ey, h⟩ := hy.inv
  rw [e, ey]
  exact PyProof.Rows.len_str (str_fit h) (q _ _ _ (fun _ _ e => e) (e3 ▸ .int _ _))
theorem tyInt_ok : BiOk (.type "int") tyInt := by
  intro vs v e ρ vals hv prog w A E Q s hh hu q
  obtain ⟨u, x, e1, e2, e3⟩ := on1_ok e
  obtain ⟨y, e, hy⟩ := hv.one e1
  rw [asI_ok e2] at hy
  obtain ⟨t, ey⟩ := hy.inv
  rw [e, ey]
  exact call_int_int (q _ s.heap s.toks (fun _ _ e => e) (e3 ▸ .int _ _))
theorem tyOf_ok {ρ : Lab} {v : V} {n : String} {x : Value} (e : tyOfV v = some n) (h : VR ρ v x) {prog : Program} {w : World} {A : Around} {E : Value → Shared → Prop} {s : Shared} {Q : Value → Shared → Prop} (q : Q (.type n) s) : wpAny (model prog w) A (call (.type "type") [x]) Q E s := by
  have g := h.inv
  have q := fun m (e : some m = some n) => (Option.some.inj e).symm ▸ q
  cases v with
  | none => rw [show x = .none from g]; exact call_type_of rfl (by decide +kernel) (q _ e)
  | bool b => rw [show x = .bool b from g]; exact call_type_of rfl (by decide +kernel) (q _ e)
  | int i => obtain ⟨t, ex⟩ := g; rw [ex]; exact call_type_of rfl (by decide +kernel) (q _ e)
  | str i => obtain ⟨t, ex, _⟩ := g; rw [ex]; exact call_type_of rfl (by decide +kernel) (q _ e)
  | flt i => obtain ⟨t, ex, _⟩ := g; rw [ex]; exact call_type_of rfl (by decide +kernel) (q _ e)
  | _ => exact no' e
theorem tyType_ok : BiOk (.type "type") tyType := by
  intro vs v e ρ vals hv prog w A E Q s hh hu q
  obtain ⟨u, x, e1, e2, e3⟩ := on1_ok e
  obtain ⟨y, e, hy⟩ := hv.one e1
  rw [e]
  exact tyOf_ok e2 hy (q _ s.heap s.toks (fun _ _ e => e) (e3 ▸ .ty _))
theorem biIsi_ok : BiOk (.builtin "isinstance") biIsi := by
  intro vs v e ρ vals hv prog w A E Q s hh hu q
  obtain ⟨u, u', r, y, ys, e0, e, ev, hy, hr⟩ := hd1_ok e hv
  rw [← Option.some.inj e0] at e
  have e : (match one r with | some t => (match asTy t with | some n => isiV n u | none => none) | none => none) = some v := e
  cases e1 : one r with
  | none => rw [e1] at e; exact no' e
  | some t =>
    rw [e1] at e
    have e : (match asTy t with | some n => isiV n u | none => none) = some v := e
    cases e2 : asTy t with
    | none => rw [e2] at e; exact no' e
    | some n =>
      rw [e2] at e
      obtain ⟨z, ez, hz⟩ := hr.one e1
      rw [asTy_ok e2] at hz
      rw [ev, ez, show z = .type n from hz.inv]
      have g := hy.inv
      cases u with
      | str x => obtain ⟨t, ex, _⟩ := g; obtain ⟨h1, h2⟩ := yesV_ok e; rw [ex, h1]; exact PySem.IsiPair.str_str (q _ s.heap s.toks (fun _ _ e => e) (h2 ▸ .bool _))
      | flt x => obtain ⟨t, ex, _⟩ := g; obtain ⟨h1, h2⟩ := yesV_ok e; rw [ex, h1]; exact PySem.IsiPair.float_float (q _ s.heap s.toks (fun _ _ e => e) (h2 ▸ .bool _))
      | int x => obtain ⟨t, ex⟩ := g; obtain ⟨h1, h2⟩ := yesV_ok e; rw [ex, h1]; exact PySem.IsiPair.int_float (q _ _ _ (fun _ _ e => e) (h2 ▸ .bool _))
      | _ => exact no' e
end Mine
end
section
open PySem PySem.W PyProof.Rows PySem.Calls
set_option Elab.async false
set_option maxRecDepth 100000
namespace Mine
/-! whole tables by one check -/
noncomputable def plainTab (K : Frag) : List (Addr × List Str) → Bool
  | [] => true
  | (C, l) :: r => l.all (plainOk K C) && plainTab K r
noncomputable def methTab (K : Frag) : List (Addr × List (Str × Addr)) → Bool
  | [] => true
  | (C, l) :: r => l.all (fun x => methOk K C x.1 x.2) && methTab K r
noncomputable def propTab (K : Frag) : List (Addr × List (Str × Addr)) → List (Addr × List (Str × Addr)) → Bool
  | [], _ => true
  | (C, l) :: r, (_, ps) :: t => (l.zip ps).all (fun x => propOk K C x.1.1 x.2.2 x.1.2) && (Nat.beq l.length ps.length && propTab K r t)
  | _, _ => false
theorem plainTab_ok {K : Frag} : ∀ {t : List (Addr × List Str)}, plainTab K t = true → ∀ C l, (C, l) ∈ t → ∀ x ∈ l, PlainAttr K C x
  | (C, l) :: r, h, C', l', hm, x, hx => by
    have h := Bool.and_eq_true_iff.mp (show (l.all (plainOk K C) && plainTab K r) = true from h)
    rcases List.mem_cons.mp hm with e | hm
    · cases e; exact plain_ok (List.all_eq_true.mp h.1 x hx)
    · exact plainTab_ok h.2 C' l' hm x hx
theorem methTab_ok {K : Frag} : ∀ {t : List (Addr × List (Str × Addr))}, methTab K t = true → ∀ C l, (C, l) ∈ t → ∀ x f, (x, f) ∈ l → MethAttr K C x f
  | (C, l) :: r, h, C', l', hm, x, f, hx => by
    have h := Bool.and_eq_true_iff.mp (show (l.all (fun x => methOk K C x.1 x.2) && methTab K r) = true from h)
    rcases List.mem_cons.mp hm with e | hm
    · cases e; exact meth_ok' (List.all_eq_true.mp h.1 _ hx)
    · exact methTab_ok h.2 C' l' hm x f hx
theorem zip_mem {α β : Type} : ∀ {l : List α} {m : List β}, l.length = m.length → ∀ a ∈ l, ∃ b, (a, b) ∈ l.zip m
  | [], _, _, a, h => by cases h
  | x :: l, y :: m, e, a, h => by
    rcases List.mem_cons.mp h with rfl | h
    · exact ⟨y, .head _⟩
    · obtain ⟨b, hb⟩ := zip_mem (Nat.succ.inj e) a h
      exact ⟨b, .tail _ hb⟩
theorem propTab_ok {K : Frag} : ∀ {t u : List (Addr × List (Str × Addr))}, propTab K t u = true → ∀ C l, (C, l) ∈ t → ∀ x f, (x, f) ∈ l → PropAttr K C x f
  | (C, l) :: r, (_, ps) :: t, h, C', l', hm, x, f, hx => by
    have h := Bool.and_eq_true_iff.mp (show ((l.zip ps).all (fun x => propOk K C x.1.1 x.2.2 x.1.2) && (Nat.beq l.length ps.length && propTab K r t)) = true from h)
    have h2 := Bool.and_eq_true_iff.mp h.2
    rcases List.mem_cons.mp hm with e | hm
    · cases e
      obtain ⟨b, hb⟩ := zip_mem (beq_eq h2.1) _ hx
      exact prop_ok (p := b.2) (List.all_eq_true.mp h.1 _ hb)
    · exact propTab_ok h2.2 C' l' hm x f hx
/-- what a global name stands for: (name, clean value, in the module's own names?) -/
noncomputable def rawV : V → Option Value
  | .raw a => some (.ref a)
  | .ty n => some (.type n)
  | .bi n => some (.builtin n)
  | _ => none
theorem rawV_ok {v : V} {val : Value} (e : rawV v = some val) : VR0 v val := by
  cases v with
  | raw a | ty a | bi a => cases Option.some.inj e; intro ρ; constructor
  | _ => exact nomatch (show (none : Option Value) = some val from e)
noncomputable def globTab (K : Frag) : List (Str × V) → Bool
  | [] => true
  | (x, v) :: r => (match rawV v with
    | some val => (nsIn K mainGlobals x == some (some val)) || ((nsIn K mainGlobals x == some none) && ((bootBuiltins x == some val) && !(sEq x "__name__")))
    | none => false) && globTab K r
theorem globTab_ok {K : Frag} : ∀ {t : List (Str × V)}, globTab K t = true → ∀ x v, (x, v) ∈ t → ∃ val, VR0 v val ∧ (nsIn K mainGlobals x = some (some val) ∨ (nsIn K mainGlobals x = some none ∧ bootBuiltins x = some val ∧ x ≠ "__name__"))
  | (y, u) :: r, h, x, v, hm => by
    have h := Bool.and_eq_true_iff.mp (show (_ && globTab K r) = true from h)
    rcases List.mem_cons.mp hm with e | hm
    · cases e
      have h1 := h.1
      cases hv : rawV u with
      | some val =>
        rw [hv] at h1
        have h1 : ((nsIn K mainGlobals y == some (some val)) || ((nsIn K mainGlobals y == some none) && ((bootBuiltins y == some val) && !(sEq y "__name__")))) = true := h1
        refine ⟨val, rawV_ok hv, ?_⟩
        simp only [Bool.or_eq_true, Bool.and_eq_true, beq_iff_eq, Bool.not_eq_true'] at h1
        rcases h1 with h1 | ⟨a, b, c⟩
        · exact .inl h1
        · exact .inr ⟨a, b, sEq_false c⟩
      | none => rw [hv] at h1; cases h1
    · exact globTab_ok h.2 x v hm
/-- the row of a def, by the count of its arguments -/
noncomputable def locsOk (K : Frag) (f : Nat) (bind : List (Str × Src)) : Bool := bind.all fun b => match getA b.1 (fdAt K f).scope.names with | some .local => true | some .cell => true | _ => false
noncomputable def fnRow (K : Frag) (f : Nat) (bind : List (Str × Src)) : Bool := fnGood K f && (locsOk K f bind && nodupS (bind.map (·.1)))
theorem fn_row {K : Frag} {f n : Nat} {kws : List Str} {bind : List (Str × Src)} (h : fnRow K f bind = true) (hc : ∀ b ∈ bind, match b.2 with | .const v val => VR0 v val | _ => True)
    (hb : ∀ (S : Setting) (vals kvals : List Value), vals.length = n → kvals.length = kws.length → peek K S (bindArgs (fdAt K f) ⟨vals, kws.zip kvals⟩) = some (bind.map fun b => (b.1, b.2.val vals kvals))) : FnOk K (mkFn K f n kws bind) := by
  simp only [fnRow, Bool.and_eq_true] at h
  exact fn_ok h.1 hb h.2.1 (nodupS_ok h.2.2) hc
theorem fn_1 {K : Frag} {f : Nat} {bind : List (Str × Src)} (h : fnRow K f bind = true) (hb : ∀ (S : Setting) (a : Value), peek K S (bindArgs (fdAt K f) ⟨[a], []⟩) = some (bind.map fun b => (b.1, b.2.val [a] [])))
    (hc : ∀ b ∈ bind, match b.2 with | .const v val => VR0 v val | _ => True) : FnOk K (mkFn K f 1 [] bind) := by
  refine fn_row h hc fun S vals kvals h1 h2 => ?_
  rcases vals with _ | ⟨a, _ | ⟨b, l⟩⟩ <;> simp at h1
  rcases kvals with _ | ⟨c, l⟩ <;> simp at h2
  exact hb S a
theorem fn_2 {K : Frag} {f : Nat} {bind : List (Str × Src)} (h : fnRow K f bind = true) (hb : ∀ (S : Setting) (a b : Value), peek K S (bindArgs (fdAt K f) ⟨[a, b], []⟩) = some (bind.map fun x => (x.1, x.2.val [a, b] [])))
    (hc : ∀ b ∈ bind, match b.2 with | .const v val => VR0 v val | _ => True) : FnOk K (mkFn K f 2 [] bind) := by
  refine fn_row h hc fun S vals kvals h1 h2 => ?_
  rcases vals with _ | ⟨a, _ | ⟨b, _ | ⟨c, l⟩⟩⟩ <;> simp at h1
  rcases kvals with _ | ⟨c, l⟩ <;> simp at h2
  exact hb S a b
theorem fn_2k {K : Frag} {f : Nat} {x : Str} {bind : List (Str × Src)} (h : fnRow K f bind = true) (hb : ∀ (S : Setting) (a b c : Value), peek K S (bindArgs (fdAt K f) ⟨[a, b], [(x, c)]⟩) = some (bind.map fun x => (x.1, x.2.val [a, b] [c])))
    (hc : ∀ b ∈ bind, match b.2 with | .const v val => VR0 v val | _ => True) : FnOk K (mkFn K f 2 [x] bind) := by
  refine fn_row h hc fun S vals kvals h1 h2 => ?_
  rcases vals with _ | ⟨a, _ | ⟨b, _ | ⟨c, l⟩⟩⟩ <;> simp at h1
  rcases kvals with _ | ⟨c, _ | ⟨d, l⟩⟩ <;> simp at h2
  exact hb S a b c
end Mine
end
section
open PySem PySem.W PyProof.Rows PySem.Calls
set_option Elab.async false
set_option maxRecDepth 100000
namespace Mine
theorem under_cls (A : Around) (C : Addr) (vals : List Value) (kw : List (Str × Value)) : A.under (.builtin "type.__call__" ⟨.ref C :: vals, kw⟩) = A.under (.builtin "type.__call__" ⟨[.ref C], []⟩) := rfl
theorem under_frames (A : Around) (C : Addr) : (A.under (.builtin "type.__call__" ⟨[.ref C], []⟩)).frames = A.frames := by
  unfold Around.under
  rcases A with ⟨_, _, (_ | _), _, _⟩ <;> rfl
theorem under_handled (A : Around) (C : Addr) : (A.under (.builtin "type.__call__" ⟨[.ref C], []⟩)).handled = A.handled := rfl
theorem makes_cls {K : Frag} {C fI : Addr} (hk : keepIn K (.ref C) = true) (hm : makesIn K C = true) (hi : findIn K (.ref C) "__init__" = some (some (.ref fI))) (hf : isFn K (.ref fI) = true) : MakesOk K C fI false := by
  refine ⟨hk, fun mg mb f hfo hd hu => ⟨f.A.under (.builtin "type.__call__" ⟨[.ref C], []⟩), under_frames _ _, under_handled _ _, Nat.le_of_eq rfl, ?_, ?_⟩⟩
  · show f.A.units + 1 ≤ _; omega
  · intro prog w E Q s m news vals kw _ F N q
    refine call_cls F hfo.gd.inK N hm hi hf fun x dx h' F' N' l1 l2 => ?_
    rw [under_cls]
    exact codeAny_mono (q x dx h' s.toks (Nat.le_refl _) F' N' l1 l2) fun r s' z => by rcases r with e | (v | _ | _ | _) <;> exact z
/-- what the K must show of a class with an own __new__(cls, /, *args, **kwargs) -/
structure NewOwn (K : Frag) (C fN fI : Addr) : Prop where
  keep : keepIn K (.ref C) = true
  init : findIn K (.ref C) "__init__" = some (some (.ref fI))
  ifn : typeIn K (.ref fI) = some (.type "function")
  made : ∀ S, peek K S (Bind.madeBy (.ref C)) = some none
  self : subIn K (.ref C) (.ref C) = some true
  call : specialIn K (.ref C) "__call__" = some (some (.builtin "type.__call__"))
  typ : instIn K (.ref C) (.type "type") = some true
  got : ∃ mc pN rest, typeIn K (.ref C) = some mc ∧ readsIn K C mc = true ∧ findCls K (.ref C) mc "__new__" = some (.get (.builtin "staticmethod.__get__") (.ref pN) .none (.ref C)) ∧ recIn K pN "staticmethod" = some (.ref fN :: rest)
  mro : ∃ oc od cd sl, K.lookup C = some ⟨oc, od, .cls cd, sl⟩ ∧ cd.mro.isEmpty = false
  new : ∀ (mg mb : Str → Option Value) (prog : Program) (w : World) (A' : Around) (s : Shared) (v : Value) (Rr : Result → Shared → Prop), Gd K mg mb s.heap → A'.depth < recursionLimit →
    (∀ h' tk dx, (∀ b o, s.heap.get? b = some o → h'.get? b = some o) → h'.get? (dx + 1) = some (instObj C dx) → h'.get? dx = some (dictOf [] 0) → s.heap.objs.size ≤ dx → Rr (.ok (.ret (.ref (dx + 1)))) { s with heap := h', toks := tk }) →
    codeAny (model prog w) A' (.call (.ref fN) ⟨[.ref C, v], []⟩) Rr s
theorem makes_own {K : Frag} {C fN fI : Addr} (O : NewOwn K C fN fI) : MakesOk K C fI true := by
  refine ⟨O.keep, fun mg mb f hfo hd hu => ⟨f.A.under (.builtin "type.__call__" ⟨[.ref C], []⟩), under_frames _ _, under_handled _ _, Nat.le_of_eq rfl, ?_, ?_⟩⟩
  · show f.A.units + 1 ≤ _; omega
  · intro prog w E Q s m news vals kw h1 F N q
    obtain ⟨v, rfl, rfl⟩ := h1 rfl
    obtain ⟨mc, pN, rest, g1, g2, g3, g4⟩ := O.got
    obtain ⟨oc, od, cd, sl, m1, m2⟩ := O.mro
    obtain ⟨h, gn, d, t, os⟩ := s
    refine wpAny_call (make_own F hfo.gd.inK m1 m2 O.made O.self O.call O.typ g1 g2 g3 g4 O.init O.ifn (fun Rr hR t => O.new mg mb prog w _ ⟨h, gn, d, t, os⟩ v Rr (hfo.gd.keeps F.keep) ?_ hR) fun h' tk dx htk k hx hdx hle => ?_)
    · show f.A.depth + 1 < _; omega
    · rw [under_cls]
      refine codeAny_mono (q (dx + 1) dx h' tk htk (F.keeps k) ?_ ?_ (Nat.lt_succ_self _)) fun r s' z => by rcases r with e | (v | _ | _ | _) <;> exact z
      · have fresh : ∀ b, h.objs.size ≤ b → b ≠ f.L ∧ f.h₀.get? b = none := fun b hb => by
          obtain ⟨oL, _, _, hL, _⟩ := F.ns
          refine ⟨Nat.ne_of_gt (Nat.lt_of_lt_of_le (Heap.lt_size hL) hb), ?_⟩
          cases hq : f.h₀.get? b with
          | none => rfl
          | some o' => exact absurd (Heap.lt_size (F.keep _ _ hq)) (Nat.not_lt.mpr hb)
        intro p hp
        rcases List.mem_cons.mp hp with rfl | hp
        · exact ⟨hx, fresh _ (Nat.le_succ_of_le hle)⟩
        · rcases List.mem_cons.mp hp with rfl | hp
          · exact ⟨hdx, fresh _ hle⟩
          · exact ⟨k _ _ (N p hp).1, (N p hp).2⟩
      · intro p hp
        exact Nat.lt_of_lt_of_le (Heap.lt_size (N p hp).1) hle
end Mine
end
section
open PySem PySem.W PyProof.Rows PySem.Calls
open Builtin Builtin.Str
set_option Elab.async false
set_option maxRecDepth 100000
namespace Mine
noncomputable def find4 (x y : Str) (i j : Int) : Int := match occurrences x y (fromIndex x.length i) (min (fromIndex x.length j) x.length) 1 with | k :: _ => (k : Int) | [] => -1
theorem gives_find4 (x y : Str) (i j : Int) (t u v z : Tok) : Gives («str.find» ⟨[.str x t, .str y u, .int i v, .int j z], []⟩) (.int (find4 x y i j)) := by
  show Gives (match occurrences x y (fromIndex x.length i) (min (fromIndex x.length j) x.length) 1 with | k :: _ => retInt k | [] => (do rule "str.find.not-found"; retInt (-1))) _
  unfold find4
  cases occurrences x y (fromIndex x.length i) (min (fromIndex x.length j) x.length) 1 with
  | nil => exact .rule (.of_eq rfl)
  | cons k _ => exact .of_eq rfl
theorem find4_none {x : Str} {c : Nat} {i j : Int} (h : memN c x.cps.toList = false) : find4 x ⟨#[c]⟩ i j = -1 := by
  unfold find4
  cases e : occurrences x ⟨#[c]⟩ (fromIndex x.length i) (min (fromIndex x.length j) x.length) 1 with
  | nil => rfl
  | cons k r =>
    have h1 := StrLaws.occ_spec x ⟨#[c]⟩ (fromIndex x.length i) (min (fromIndex x.length j) x.length) 1 k (by rw [e]; exact .head _)
    have h2 := (StrLaws.subAt_one x c k).mp ⟨Nat.le_trans h1.1 (Nat.min_le_right _ _), h1.2⟩
    have h3 : c ∈ x.cps.toList := List.mem_iff_getElem?.mpr ⟨k, h2⟩
    rw [memN_eq] at h
    exact absurd h3 (of_decide_eq_false h)
noncomputable def biFind : List V → Option V := hd1 asS fun x r => hd1 asS (fun y r => hd1 asI (fun i r => on1 asI (fun j => .int (find4 x y i j)) r) r) r
theorem biFind_ok : BiOk (.builtin "str.find") biFind := by
  intro vs v e ρ vals hv prog w A E Q s hh hu q
  obtain ⟨v1, x, r1, y1, ys1, g1, e, ev1, h1, hv⟩ := hd1_ok e hv
  obtain ⟨v2, y, r2, y2, ys2, g2, e, ev2, h2, hv⟩ := hd1_ok e hv
  obtain ⟨v3, i, r3, y3, ys3, g3, e, ev3, h3, hv⟩ := hd1_ok e hv
  obtain ⟨v4, j, e4, g4, e⟩ := on1_ok e
  obtain ⟨y4, ev4, h4⟩ := hv.one e4
  rw [asS_ok g1] at h1
  rw [asS_ok g2] at h2
  rw [asI_ok g3] at h3
  rw [asI_ok g4] at h4
  obtain ⟨t1, w1, _⟩ := h1.inv
  obtain ⟨t2, w2, _⟩ := h2.inv
  obtain ⟨t3, w3⟩ := h3.inv
  obtain ⟨t4, w4⟩ := h4.inv
  rw [ev1, ev2, ev3, ev4, w1, w2, w3, w4]
  exact call_gives F.slot_str_find (typeIs_str _ _ _) F.entry_str_find (F.args_str_find_4 _ _ _ _) (gives_find4 _ _ _ _ _ _ _ _) (q _ s.heap _ (fun _ _ e => e) (e ▸ .int _ _))
theorem smFind (M : Model) (A : Around) (E : Value → Shared → Prop) (Q : Value × List Value → Shared → Prop) (s : Shared) (y : Str) (t : Tok) (pl : Sem Bool) (q : Q (.builtin "str.find", [.str y t]) s) : wpAny M A (getMethod (.str y t) "find" pl) Q E s := GM.find q
end Mine
end
section
open PySem PySem.W PyProof.Rows PySem.Calls
set_option Elab.async false
set_option maxRecDepth 100000
set_option genSizeOf false
set_option genInjectivity false
namespace Mine
/-! the plain reader of words -/
inductive Sta where
  | sp
  | a
  | sq
  | dq
noncomputable def Sta.v : Sta → V
  | .sp => .str " "
  | .a => .str "a"
  | .sq => .str ⟨#[39]⟩
  | .dq => .str ⟨#[34]⟩
noncomputable def okc (c : Nat) : Bool := !(memN c [10, 9, 13, 92])
/-- (quoted, token, at the end, the rest) -/
noncomputable def rd (com : Bool) : List Nat → Sta → Bool → List Nat → Option (Bool × List Nat × Bool × List Nat)
  | [], .sp, q, t => some (q, t, true, [])
  | [], .a, q, t => some (q, t, true, [])
  | [], _, _, _ => none
  | c :: r, .sp, q, t => if c = 32 then rd com r .sp q t else if c = 35 ∧ com = true then some (q, t, true, []) else if c = 39 then rd com r .sq q t else if c = 34 then rd com r .dq q t else if okc c then rd com r .a q [c] else none
  | c :: r, .a, q, t => if c = 32 then (if t = [] ∧ q = false then none else some (q, t, false, r)) else if c = 35 ∧ com = true then none else if c = 39 then rd com r .sq q t else if c = 34 then rd com r .dq q t else if okc c then rd com r .a q (t ++ [c]) else none
  | c :: r, .sq, _, t => if c = 39 then rd com r .a true t else if okc c then rd com r .sq true (t ++ [c]) else none
  | c :: r, .dq, _, t => if c = 34 then rd com r .a true t else if okc c then rd com r .dq true (t ++ [c]) else none
theorem rd_sp {com : Bool} {c : Nat} {r : List Nat} {q : Bool} {t : List Nat} : rd com (c :: r) .sp q t = if c = 32 then rd com r .sp q t else if c = 35 ∧ com = true then some (q, t, true, []) else if c = 39 then rd com r .sq q t else if c = 34 then rd com r .dq q t else if okc c then rd com r .a q [c] else none := rfl
theorem rd_a {com : Bool} {c : Nat} {r : List Nat} {q : Bool} {t : List Nat} : rd com (c :: r) .a q t = if c = 32 then (if t = [] ∧ q = false then none else some (q, t, false, r)) else if c = 35 ∧ com = true then none else if c = 39 then rd com r .sq q t else if c = 34 then rd com r .dq q t else if okc c then rd com r .a q (t ++ [c]) else none := rfl
theorem rd_sq {com : Bool} {c : Nat} {r : List Nat} {q : Bool} {t : List Nat} : rd com (c :: r) .sq q t = if c = 39 then rd com r .a true t else if okc c then rd com r .sq true (t ++ [c]) else none := rfl
theorem rd_dq {com : Bool} {c : Nat} {r : List Nat} {q : Bool} {t : List Nat} : rd com (c :: r) .dq q t = if c = 34 then rd com r .a true t else if okc c then rd com r .dq true (t ++ [c]) else none := rfl
theorem slice_at {l : List Nat} {n : Nat} {c : Nat} {m : Int} (h : l[n]? = some c) (hm : m = n + 1) : Txt.slice (⟨l.toArray⟩ : Str) (some (n : Int)) (some m) = ⟨#[c]⟩ := by
  subst hm
  obtain ⟨h1, h2⟩ := List.getElem?_eq_some_iff.mp h
  show StrLaws.sliceText _ _ _ = _
  rw [StrLaws.sliceText_plain (by show 0 ≤ (n : Int) ∧ (n : Int) ≤ (n : Int) + 1 ∧ (n : Int) + 1 ≤ (l.length : Int); omega)]
  have e : ((n : Int) + 1 - n).toNat = 1 := by omega
  rw [e]
  show (⟨((l.drop n).take 1).toArray⟩ : Str) = _
  rw [List.drop_eq_getElem_cons h1, h2]
  rfl
theorem app1 (t : List Nat) (c : Nat) : (⟨t.toArray⟩ : Str) ++ ⟨#[c]⟩ = ⟨(t ++ [c]).toArray⟩ := by
  show (⟨t.toArray ++ #[c]⟩ : Str) = _
  simp
theorem mem_false {c : Nat} {l : List Nat} (h : c ∉ l) : memN c l = false := (memN_eq c l).trans (decide_eq_false h)
theorem okc_of {c : Nat} (h : okc c = true) : c ≠ 10 ∧ c ≠ 9 ∧ c ≠ 13 ∧ c ≠ 92 := by
  have h := (Bool.not_eq_true' _).mp h
  rw [memN_eq] at h
  have h := of_decide_eq_false h
  exact ⟨fun e => h (e ▸ .head _), fun e => h (e ▸ .tail _ (.head _)), fun e => h (e ▸ .tail _ (.tail _ (.head _))), fun e => h (e ▸ .tail _ (.tail _ (.tail _ (.head _))))⟩
theorem sEq_one {c d : Nat} (h : c ≠ d) : sEq ⟨#[c]⟩ ⟨#[d]⟩ = false := by
  cases e : sEq (⟨#[c]⟩ : Str) ⟨#[d]⟩ with
  | false => rfl
  | true => exact absurd (List.cons.inj (congrArg (fun s : Str => s.cps.toList) (sEq_iff.mp e))).1 h
theorem okc_nl {c : Nat} (h : okc c = true) : sEq ⟨#[c]⟩ (Str.ofString "\n") = false := sEq_one (d := 10) (okc_of h).1
theorem okc_es {c : Nat} (h : okc c = true) : memN c (Str.ofString "\\").cps.toList = false := mem_false (l := [92]) fun g => (okc_of h).2.2.2 (List.mem_singleton.mp g)
theorem okc_ws {c : Nat} (h : okc c = true) (h2 : c ≠ 32) : memN c (Str.ofString " \t\r\n").cps.toList = false := mem_false (l := [32, 9, 13, 10]) fun g => by
  have k := okc_of h
  rcases List.mem_cons.mp g with g | g
  · exact h2 g
  rcases List.mem_cons.mp g with g | g
  · exact k.2.1 g
  rcases List.mem_cons.mp g with g | g
  · exact k.2.2.1 g
  · exact k.1 (List.mem_singleton.mp g)
theorem okc_qu {c : Nat} (h1 : c ≠ 39) (h2 : c ≠ 34) : memN c (Str.ofString "'\"").cps.toList = false := mem_false (l := [39, 34]) fun g => (List.mem_cons.mp g).elim h1 fun g => h2 (List.mem_singleton.mp g)
noncomputable def comS : Bool → Str
  | true => "#"
  | false => ""
theorem com_not {c : Nat} {com : Bool} (h : ¬ (c = 35 ∧ com = true)) : memN c (comS com).cps.toList = false := by
  cases com with
  | false => rfl
  | true => exact mem_false (l := [35]) fun g => h ⟨List.mem_singleton.mp g, rfl⟩
end Mine
end
section
open PySem PySem.W PyProof.Rows PySem.Calls
set_option Elab.async false
set_option maxRecDepth 100000
namespace Mine
theorem wp_append {M : Model} {Γ : Ctx} {env : Env} {b : List Stmt} {post : Flow → Pos → Shared → Prop} {exc : Value → Pos → Shared → Prop} : ∀ (a : List Stmt) (p : Pos) (s : Shared),
    Sem.wp M Γ (execs a env) (fun fl p' s' => Sem.wp M Γ (match fl with | .next => execs b env | f => pure f) post exc p' s') exc p s → Sem.wp M Γ (execs (a ++ b) env) post exc p s
  | [], p, s, h => h
  | x :: a, p, s, h => by
    have e1 : execs (x :: a) env = (do match ← exec x env with | .next => execs a env | f => pure f) := rfl
    have e2 : execs (x :: a ++ b) env = (do match ← exec x env with | .next => execs (a ++ b) env | f => pure f) := rfl
    rw [e1, Sem.wp_bind'] at h
    rw [e2, Sem.wp_bind']
    refine Sem.wp_mono M Γ _ (fun fl p' s' h' => ?_) (fun _ _ _ h' => h') p s h
    cases fl with
    | next => exact wp_append a p' s' h'
    | brk => exact h'
    | cont => exact h'
    | ret v => exact h'
section
variable {prog : Program} {w : World} {K : Frag} {mg mb : Str → Option Value} {os₀ : Glo} {Γ : Gam} {X n : Nat} {f : FD} {loc : Loc} {st : St}
theorem TB.append {a b : List Stmt} {k : Fl → Loc → St → Prop} (h : TB prog w os₀ f a loc st (fun fl loc' st' => match fl with | .next => TB prog w os₀ f b loc' st' k | fl => k fl loc' st')) : TB prog w os₀ f (a ++ b) loc st k := by
  intro ρ s Q Ex hR q
  have := h ρ s (fun fv s' => wpAny (model prog w) f.A (match fv with | .next => execs b f.env | g => pure g) Q Ex s') Ex hR (fun fl loc' st' ρ' fv s' hk le hR' hfl => by
    cases hfl with
    | next => exact hk ρ' s' Q Ex hR' fun fl₂ loc₂ st₂ ρ₂ fv₂ s₂ h₂ le₂ hR₂ hfl₂ => q _ _ _ _ _ _ h₂ (le.trans le₂) hR₂ hfl₂
    | brk => exact wpAny_pure (q _ _ _ _ _ _ hk le hR' .brk)
    | cont => exact wpAny_pure (q _ _ _ _ _ _ hk le hR' .cont)
    | ret hv => exact wpAny_pure (q _ _ _ _ _ _ hk le hR' (.ret hv)))
  intro Γ p hΓ
  refine wp_append a p s ?_
  exact Sem.wp_mono _ Γ _ (fun fl p' s' h' => h' Γ p' hΓ) (fun _ _ _ h' => h') p s (this Γ p hΓ)
end
end Mine
end
section
open PySem PySem.W PyProof.Rows PySem.Calls
set_option Elab.async false
set_option maxRecDepth 100000
namespace Mine
/-! raising: the frames' slots turn, all else stays -/
section
variable {prog : Program} {w : World} {K : Frag} {mg mb : Str → Option Value} {os₀ : Glo} {f : FD} {loc : Loc} {st : St} {ρ : Lab} {s : Shared}
noncomputable abbrev FD.hid (f : FD) (h : Heap) : Heap := hideAll h (f.L :: f.outs.fs.map (·.1))
theorem Frs.fst {outs : Outs} {fs : List (Addr × Obj)} (h : Frs outs fs) : fs.map (·.1) = outs.map (·.1) := by
  induction h with
  | nil => rfl
  | cons a b ih => simp [ih]
theorem Frs.turn {h' : Heap} {outs : Outs} {fs : List (Addr × Obj)} (h : Frs outs fs) (k : ∀ p ∈ fs, ∃ sl, h'.get? p.1 = some { p.2 with slots := sl }) : ∃ fs', Frs outs fs' ∧ fs'.map (·.1) = fs.map (·.1) ∧ ∀ p ∈ fs', h'.get? p.1 = some p.2 := by
  induction h with
  | nil => exact ⟨[], .nil, rfl, fun p hp => nomatch hp⟩
  | @cons L m o outs fs a b ih =>
    obtain ⟨fs', h1, h2, h3⟩ := ih fun p hp => k p (.tail _ hp)
    obtain ⟨sl, hs⟩ := k (L, o) (.head _)
    obtain ⟨es, ep, d1, d2, d3⟩ := a
    refine ⟨(L, { o with slots := sl }) :: fs', .cons ⟨es, ep, d1, d2, d3⟩ h1, by simp [h2], fun p hp => ?_⟩
    rcases List.mem_cons.mp hp with rfl | hp
    · exact hs
    · exact h3 p hp
theorem Frs.dict {outs : Outs} {fs : List (Addr × Obj)} (h : Frs outs fs) : ∀ p ∈ fs, ∀ vs, p.2.data ≠ .fields vs := by
  induction h with
  | nil => exact fun p hp => nomatch hp
  | cons a b ih =>
    intro p hp vs
    rcases List.mem_cons.mp hp with rfl | hp
    · obtain ⟨es, ep, d1, _⟩ := a
      rw [d1]; exact fun e => by cases e
    · exact ih p hp vs
theorem R.turned (hR : R w os₀ f.h₀ f.L f.outs loc st ρ s) {h' : Heap} {tk : Nat} (hb : (f.hid s.heap).StaysIn h') (hu : s.heap.UpToSlots h') (htk : s.toks ≤ tk := by omega) : R w os₀ f.h₀ f.L f.outs loc st ρ { s with heap := h', toks := tk } := by
  obtain ⟨m, F, hm⟩ := hR.fr
  obtain ⟨ns, N, T, nd⟩ := hR.led
  obtain ⟨pre, l, rfl, ⟨c, fs, rfl, hc, hfs⟩, hT⟩ := T.parts
  have hin : ∀ p ∈ fs, p ∈ pre ++ (f.outs.raw ++ (ρ.im ++ (c ++ fs))) := fun p hp => by simp [hp]
  obtain ⟨fs', h1, h2, h3⟩ := hfs.turn (h' := h') fun p hp => hu p.1 p.2 (N p (hin p hp)).1 (hfs.dict p hp)
  have nout : ∀ b o, f.h₀.get? b = some o → b ∉ f.L :: f.outs.fs.map (·.1) := fun b o e q => by
    rcases List.mem_cons.mp q with q | q
    · rw [q] at e
      exact absurd (Nat.lt_of_lt_of_le (Heap.lt_size e) F.above) (Nat.lt_irrefl _)
    · rw [← hfs.fst] at q
      obtain ⟨p, hp, rfl⟩ := List.mem_map.mp q
      rw [(N p (hin p hp)).2.2] at e; cases e
  have nd1 : ((pre ++ (f.outs.raw ++ (ρ.im ++ c))).map (·.1) ++ fs.map (·.1)).Nodup := by
    have : (pre ++ (f.outs.raw ++ (ρ.im ++ c))).map (·.1) ++ fs.map (·.1) = (pre ++ (f.outs.raw ++ (ρ.im ++ (c ++ fs)))).map (·.1) := by simp
    rw [this]; exact nd
  rw [List.nodup_append] at nd1
  have own : ∀ p ∈ pre ++ (f.outs.raw ++ (ρ.im ++ c)), h'.get? p.1 = some p.2 ∧ p.1 ≠ f.L ∧ f.h₀.get? p.1 = none := fun p hp => by
    have hp' : p ∈ pre ++ (f.outs.raw ++ (ρ.im ++ (c ++ fs))) := by
      simp only [List.mem_append] at hp ⊢
      rcases hp with h | h | h | h
      · exact .inl h
      · exact .inr (.inl h)
      · exact .inr (.inr (.inl h))
      · exact .inr (.inr (.inr (.inl h)))
    refine ⟨hb _ _ (hideAll_get _ (N p hp').1 fun q => ?_), (N p hp').2⟩
    rcases List.mem_cons.mp q with q | q
    · exact (N p hp').2.1 q
    · rw [← hfs.fst] at q
      exact nd1.2.2 p.1 (List.mem_map_of_mem hp) p.1 q rfl
  refine ⟨⟨m, ⟨hu.ns F.ns, fun b o e => hb b o (hideAll_get _ (F.keep b o e) (nout b o e)), F.above⟩, hm⟩, ⟨pre ++ (f.outs.raw ++ (ρ.im ++ (c ++ fs'))), fun p hp => ?_, hT _ _ ⟨c, fs', rfl, hc, h1⟩, ?_⟩, hR.free, hR.os, hR.gens, Nat.lt_of_lt_of_le hR.tok htk⟩
  · have hp2 : p ∈ pre ++ (f.outs.raw ++ (ρ.im ++ c)) ∨ p ∈ fs' := by
      simp only [List.mem_append] at hp ⊢
      rcases hp with h | h | h | h | h
      · exact .inl (.inl h)
      · exact .inl (.inr (.inl h))
      · exact .inl (.inr (.inr (.inl h)))
      · exact .inl (.inr (.inr (.inr h)))
      · exact .inr h
    rcases hp2 with hp | hp
    · exact own p hp
    · have : p.1 ∈ fs.map (·.1) := h2 ▸ List.mem_map_of_mem hp
      obtain ⟨p', hp', e⟩ := List.mem_map.mp this
      refine ⟨h3 p hp, ?_⟩
      rw [← e]; exact (N p' (hin p' hp')).2
  · have : (pre ++ (f.outs.raw ++ (ρ.im ++ (c ++ fs')))).map (·.1) = (pre ++ (f.outs.raw ++ (ρ.im ++ (c ++ fs)))).map (·.1) := by simp [h2]
    rw [this]; exact nd
theorem R.funFrames (hf : f.Ok K mg mb) (hR : R w os₀ f.h₀ f.L f.outs loc st ρ s) : s.heap.FunFrames (f.hid s.heap) f.fr := by
  obtain ⟨m, F, hm⟩ := hR.fr
  obtain ⟨ns, N, T, nd⟩ := hR.led
  obtain ⟨pre, l, rfl, ⟨c, fs, rfl, hc, hfs⟩, hT⟩ := T.parts
  obtain ⟨oL, es, ep, hL, hLd, _⟩ := F.ns
  have all : ∀ l : List Env, (∀ env ∈ l, env.scope.kind = .function ∧ ∃ a, env.frame = some a ∧ (a = f.L ∨ ∃ p ∈ f.outs.fs, a = p.1)) → s.heap.FunFrames (f.hid s.heap) l := by
    intro l
    induction l with
    | nil => exact fun _ => trivial
    | cons env r ih =>
      intro hl
      obtain ⟨h1, a, e, ha⟩ := hl env (.head _)
      refine ⟨by rw [h1]; decide, ?_, ih fun env' h' => hl env' (.tail _ h')⟩
      rcases ha with rfl | ⟨p, hp, rfl⟩
      · exact ⟨f.L, oL, e, hideAll_none _ (.head _), hL, fun vs => by rw [hLd]; exact fun e => by cases e⟩
      · have : p.1 ∈ fs.map (·.1) := hfs.fst ▸ List.mem_map_of_mem hp
        obtain ⟨q, hq, e2⟩ := List.mem_map.mp this
        refine ⟨p.1, q.2, e, hideAll_none _ (.tail _ (List.mem_map_of_mem hp)), ?_, hfs.dict q hq⟩
        rw [← e2]
        exact (N q (by simp [hq])).1
  exact all _ hf.behind
/-- an error made here leaves the frame -/
theorem R.leaves (hf : f.Ok K mg mb) {outer : List Env} (hfr : f.fr = f.env :: outer) (hfm : f.frame = some f.L) (hR : R w os₀ f.h₀ f.L f.outs loc st ρ s) {h₂ : Heap} {tk : Nat} (htk : s.toks ≤ tk) {e : Addr} {cls : Value} {args : List Value} {M : Model} {Q : Unit → Shared → Prop} {E : Value → Shared → Prop} (hx : Heap.MadeExcOf s.heap h₂ e cls args)
    (q : ∀ h₃ t, R w os₀ f.h₀ f.L f.outs loc st ρ { s with heap := h₃, toks := tk } → Heap.FlyingW (f.hid s.heap) outer e cls (.ref t) h₃ → h₃.TupAt t args → (f.hid s.heap).get? t = none → Q () { s with heap := h₃, toks := tk }) :
    wpAny M f.A (leaving f.env (.ref e)) Q E { s with heap := h₂, toks := tk } :=
  wpAny_leaves_madeW (base := f.hid s.heap) (h := s.heap) (s := { s with heap := h₂, toks := tk }) (by rw [← hfr]; exact hf.frames) hfm (fun b o e => of_hideAll _ e) (hfr ▸ hR.funFrames hf) hx fun h₃ t x1 x2 x3 x4 =>
    q h₃ t (hR.turned x1.1 ((Heap.UpToSlots.of_keeps hx.keeps).trans x4) htk) x1 x2 x3
end
end Mine
end
section
open PySem PySem.W PyProof.Rows PySem.Calls
set_option Elab.async false
set_option maxRecDepth 100000
namespace Mine
section
variable {prog : Program} {w : World} {K : Frag} {mg mb : Str → Option Value} {os₀ : Glo} {Γ : Gam} {X N : Nat} {f : FD} {loc : Loc} {st : St}
/-- a loop with a test -/
theorem TS.whileT {test : Expr} {pos : Pos} {body : List Stmt} {k : Fl → Loc → St → Prop} (hX : X ≤ 900) (O : Γ.Ok prog w K X) (hf : f.Ok K mg mb) (hd : f.A.depth + N + 10 < X) (hu : f.A.units + 10 * N + 30 < 10 * X)
    (I : Nat → Loc → St → Prop) (n₀ : Nat) (h0 : I n₀ loc st)
    (turn : ∀ n loc st, I n loc st → ∃ p, (run Γ N).T f.cs.names p loc st test (fun _ c st' => match c with
      | true => TB prog w os₀ f body loc st' (fun fl loc' st' => match fl with
        | .next => ∃ m, m < n ∧ I m loc' st'
        | .cont => ∃ m, m < n ∧ I m loc' st'
        | .brk => k .next loc' st'
        | .ret v => k (.ret v) loc' st')
      | false => k .next loc st')) : TS prog w os₀ f (.While test body [] pos) loc st k := by
  intro ρ s Q Ex hR q
  refine wpAny_While (codeAny_whileLoop (fun n s' => ∃ loc' st' ρ', I n loc' st' ∧ LabLe ρ ρ' ∧ R w os₀ f.h₀ f.L f.outs loc' st' ρ' s') ?_ n₀ ⟨loc, st, ρ, h0, .refl _, hR⟩)
  rintro n s' ⟨loc', st', ρ', hI, le, hR'⟩
  obtain ⟨p, hT⟩ := turn n loc' st' hI
  refine (sound (mg := mg) (mb := mb) (os₀ := os₀) hX O N).T f ⟨hf, hd, hu⟩ hT (fun _ _ _ h => h) ρ' s' _ _ hR' fun c st₁ ρ₁ s₁ hk le₁ hR₁ => ?_
  cases c with
  | true =>
    refine hk ρ₁ s₁ _ _ hR₁ fun fl loc₂ st₂ ρ₂ fv s₂ hk₂ le₂ hR₂ hfl => ?_
    cases hfl with
    | next => obtain ⟨m, hm, hI₂⟩ := hk₂; exact ⟨m, hm, loc₂, st₂, ρ₂, hI₂, le.trans (le₁.trans le₂), hR₂⟩
    | cont => obtain ⟨m, hm, hI₂⟩ := hk₂; exact ⟨m, hm, loc₂, st₂, ρ₂, hI₂, le.trans (le₁.trans le₂), hR₂⟩
    | brk => exact q _ _ _ _ _ _ hk₂ (le.trans (le₁.trans le₂)) hR₂ .next
    | ret hv => exact q _ _ _ _ _ _ hk₂ (le.trans (le₁.trans le₂)) hR₂ (.ret hv)
  | false => exact wpAny_execs_nil (q _ _ _ _ _ _ hk (le.trans le₁) hR₁ .next)
end
section
variable {w : World} {os₀ : Glo} {h₀ : Heap} {L : Addr} {outs : Fx} {loc : Loc} {st : St} {ρ : Lab} {s : Shared}
/-- a raw list is frozen -/
theorem R.freezeRaw {S : Addr} {n : Nat} {vs : List V} {xs : List Value} {raw : List (Addr × Obj)} {v : V} (r : R w os₀ h₀ L { outs with raw := (S, listOf xs.toArray n) :: raw } loc st ρ s) (hv : VRs ρ vs xs) (hi : itemsV v = some vs) (hc : vs.all closedV = true) (hz : vs.length ≤ sizeLine) :
    ∃ ρ', LabLe ρ ρ' ∧ VR ρ' v (.ref S) ∧ R w os₀ h₀ L { outs with raw := raw } loc st ρ' s := by
  obtain ⟨m, M⟩ := r.fr
  obtain ⟨le, hR⟩ := r.relay (outs' := { outs with raw := raw }) (im' := (S, listOf xs.toArray n) :: ρ.im) (fun _ h => .tail _ h) rfl rfl M M.F (fun pre l N nd => News.perm (List.Perm.append_left _ (show (raw ++ (S, listOf xs.toArray n) :: (ρ.im ++ l)).Perm _ from List.perm_middle)) N nd) (Nat.le_refl _)
  exact ⟨_, le, .of_items (.head _) (hv.mono le) hi hc hz, hR⟩
end
end Mine
end
section
open PySem PySem.W PyProof.Rows PySem.Calls
set_option Elab.async false
set_option maxRecDepth 100000
namespace Mine
section
variable {prog : Program} {w : World} {K : Frag} {mg mb : Str → Option Value} {os₀ : Glo} {f : FD} {loc : Loc}
/-- what a class shows that is its own iterator -/
structure OwnIt (K : Frag) (C fIt fNx : Addr) : Prop where
  iter : findIn K (.ref C) "__iter__" = some (some (.ref fIt))
  iterf : isFn K (.ref fIt) = true
  next : findIn K (.ref C) "__next__" = some (some (.ref fNx))
  nextf : isFn K (.ref fNx) = true
  len : findIn K (.ref C) "__len__" = some none
  hint : findIn K (.ref C) "__length_hint__" = some none
structure Near (f : FD) (A' : Around) : Prop where
  frames : A'.frames = f.A.frames
  handled : A'.handled = none
  depth : A'.depth = f.A.depth
  units : A'.units ≤ f.A.units + 9
/-- the contract of an own iterator's parts: J vs is the state with vs still to come, D the state behind the end -/
structure ItOk (prog : Program) (w : World) (os₀ : Glo) (f : FD) (loc : Loc) (C fIt fNx : Addr) (j : Nat) (J : List V → List (Nat × O) → Nat → Prop) (D : List (Nat × O) → Nat → Prop) : Prop where
  inst : ∀ vs objs next, J vs objs next → ∃ as, getO j objs = some (.inst C as)
  iter : ∀ A', Near f A' → ∀ vs objs next rest, J vs objs next → ∀ ρ s x (Rr : Result → Shared → Prop), R w os₀ f.h₀ f.L { f.outs with raw := rest } loc ⟨objs, next⟩ ρ s → ρ.of j = some x →
    (∀ ρ' s', LabLe ρ ρ' → R w os₀ f.h₀ f.L { f.outs with raw := rest } loc ⟨objs, next⟩ ρ' s' → Rr (.ok (.ret (.ref x))) s') → codeAny (model prog w) A' (.call (.ref fIt) ⟨[.ref x], []⟩) Rr s
  next : ∀ A', Near f A' → ∀ vs objs next rest, J vs objs next → ∀ ρ s x (Rr : Result → Shared → Prop), R w os₀ f.h₀ f.L { f.outs with raw := rest } loc ⟨objs, next⟩ ρ s → ρ.of j = some x →
    (∀ v vs' objs' next' ρ' val s', vs = v :: vs' → J vs' objs' next' → LabLe ρ ρ' → R w os₀ f.h₀ f.L { f.outs with raw := rest } loc ⟨objs', next'⟩ ρ' s' → VR ρ' v val → Rr (.ok (.ret val)) s') →
    (∀ e objs' next' ρ' s', vs = [] → D objs' next' → LabLe ρ ρ' → R w os₀ f.h₀ f.L { f.outs with raw := rest } loc ⟨objs', next'⟩ ρ' s' → s'.TypeIs (.ref e) "StopIteration" → Rr (.error (.ref e)) s') →
    codeAny (model prog w) A' (.call (.ref fNx) ⟨[.ref x], []⟩) Rr s
theorem R.instAt {h₀ : Heap} {L : Addr} {outs : Fx} {j : Nat} {C : Addr} {as : List (Str × V)} {st : St} {ρ : Lab} {s : Shared} {x : Addr} (r : R w os₀ h₀ L outs loc st ρ s) (ho : getO j st.objs = some (.inst C as)) (hx : ρ.of j = some x) : ∃ ox od, InstAt s.heap x ox C od := by
  obtain ⟨ns, pre, post, a, dx, n, es, I⟩ := r.inst ho (.ref hx)
  exact ⟨_, _, (Value.ref.inj I.e).symm ▸ I.at_⟩
theorem loop_own {C fIt fNx j : Nat} {J : List V → List (Nat × O) → Nat → Prop} {D : List (Nat × O) → Nat → Prop} (hf : f.Ok K mg mb) (O : OwnIt K C fIt fNx) (T : ItOk prog w os₀ f loc C fIt fNx j J D) {rest : List (Addr × Obj)} {S : Addr} {all : List V} (hz : all.length ≤ sizeLine) {A : Around} (hA : Near f A.in1) {Rr : Result → Shared → Prop} {x : Addr} :
    ∀ (vs : List V) (done : List V) (xs : List Value) (c : Nat) (objs : List (Nat × Mine.O)) (next : Nat) (ρ : Lab) (s : Shared), all = done ++ vs → J vs objs next → ρ.of j = some x → VRs ρ done xs → R w os₀ f.h₀ f.L { f.outs with raw := (S, listOf xs.toArray c) :: rest } loc ⟨objs, next⟩ ρ s →
    (∀ objs' next' ρ' xs' c' s', D objs' next' → LabLe ρ ρ' → VRs ρ' all xs' → R w os₀ f.h₀ f.L { f.outs with raw := (S, listOf xs'.toArray c') :: rest } loc ⟨objs', next'⟩ ρ' s' → Rr (.ok (.ret .none)) s') →
    codeAny (model prog w) A (.builtin "list.extend.loop" ⟨[.ref S, .ref x, .none], []⟩) Rr s := by
  intro vs
  induction vs with
  | nil =>
    intro done xs c objs next ρ s hall hJ hx hv hR q
    obtain ⟨as, ho⟩ := T.inst _ _ _ hJ
    obtain ⟨ox, od, I⟩ := hR.instAt ho hx
    obtain ⟨m, Fm, -⟩ := hR.fr
    refine codeAny_builtin PySem.F.entry_extend_loop ?_
    rw [Around.under_plainId PySem.F.plain_extend_loop _]
    show wpAny _ A.in1 (pyNext (.ref x) >>= _) _ _ s
    refine wpAny_bind (owit_next Fm hf.gd.inK I O.next O.nextf (wpAny_call (T.next A.in1 hA [] objs next _ hJ ρ s x _ hR hx (fun v vs' _ _ _ _ _ e => by cases e) fun e objs' next' ρ' s' _ hD le hR' hT => ?_)))
    unfold OwitStop
    refine wpAny_isInstance hT (b := true) (by rw [isSubtype_type]; kernel_rfl) ?_
    rw [if_pos rfl]
    simp only [List.append_nil] at hall
    subst hall
    exact wpAny_pure (q _ _ _ _ _ _ hD le (hv.mono le) hR')
  | cons v vs ih =>
    intro done xs c objs next ρ s hall hJ hx hv hR q
    obtain ⟨as, ho⟩ := T.inst _ _ _ hJ
    obtain ⟨ox, od, I⟩ := hR.instAt ho hx
    obtain ⟨m, Fm, -⟩ := hR.fr
    refine codeAny_builtin PySem.F.entry_extend_loop ?_
    rw [Around.under_plainId PySem.F.plain_extend_loop _]
    show wpAny _ A.in1 (pyNext (.ref x) >>= _) _ _ s
    refine wpAny_bind (owit_next Fm hf.gd.inK I O.next O.nextf (wpAny_call (T.next A.in1 hA (v :: vs) objs next _ hJ ρ s x _ hR hx (fun v' vs' objs' next' ρ' val s' e hJ' le hR' hval => ?_) fun _ _ _ _ _ e => by cases e)))
    cases e
    show wpAny _ A.in1 (updateSeq S (·.push val) >>= _) _ _ _
    have hS := hR'.rawAt
    have hl : xs.length = done.length := hv.length
    have hzz : done.length + 1 ≤ sizeLine := by rw [hall] at hz; simp at hz; omega
    refine wpAny_bind (wpAny_updateSeq hS rfl (wpAny_pure ⟨plainId_quiet PySem.F.plain_extend_loop _, ?_⟩) (by show xs.toArray.size ≤ _; simp; omega) (by show (xs.toArray.push val).size ≤ _; simp; omega))
    have hS' := Heap.get?_update_self (Obj.mapSeq (·.push val)) hS rfl
    refine ih (done ++ [v]) (xs ++ [val]) _ objs' next' ρ' _ (by rw [hall]; simp) hJ' (le.of _ _ hx) ((hv.mono le).append (.cons hval .nil)) ((hR'.rawTurn (tk := s'.toks) (fun b x hb e => (Heap.get?_update_other _ _ (Ne.symm hb)).trans e) (Nat.le_refl _)).1 (listOf (xs ++ [val]).toArray (seqN (Obj.mapSeq (·.push val) (listOf xs.toArray c)))) ?_) ?_
    · refine hS'.trans (congrArg some ?_)
      have e : (xs ++ [val]).toArray = xs.toArray.push val := by simp
      rw [e]
      rfl
    · intro objs₂ next₂ ρ₂ xs₂ c₂ s₂ hD le₂ hv₂ hR₂
      exact q _ _ _ _ _ _ hD (le.trans le₂) hv₂ hR₂
/-- list(x) of an own iterator -/
theorem list_own {C fIt fNx j : Nat} {J : List V → List (Nat × O) → Nat → Prop} {D : List (Nat × O) → Nat → Prop} (hf : f.Ok K mg mb) (O : OwnIt K C fIt fNx) (T : ItOk prog w os₀ f loc C fIt fNx j J D) {rest : List (Addr × Obj)} {all : List V} (hz : all.length ≤ sizeLine)
    {objs : List (Nat × Mine.O)} {next : Nat} {ρ : Lab} {s : Shared} {x : Addr} {Q : Value → Shared → Prop} {E : Value → Shared → Prop} (hJ : J all objs next) (hx : ρ.of j = some x) (hR : R w os₀ f.h₀ f.L { f.outs with raw := rest } loc ⟨objs, next⟩ ρ s)
    {v : V} (hiv : itemsV v = some all) (hcl : all.all closedV = true) (q : ∀ objs' next' ρ' val s', D objs' next' → LabLe ρ ρ' → R w os₀ f.h₀ f.L { f.outs with raw := rest } loc ⟨objs', next'⟩ ρ' s' → VR ρ' v val → Q val s') :
    wpAny (model prog w) f.A (call (.type "list") [.ref x]) Q E s := by
  refine callType_codes (Q₁ := fun obj s₁ => obj = .ref s.heap.objs.size ∧ s₁ = { s with heap := s.heap.push { cls := .type "list", data := .seq #[] } }) PySem.F.called_list (PySem.F.typeCall_list_1 _) PySem.F.entry_list_init
    (code_list_new _ ⟨rfl, rfl⟩) fun obj s₁ h₁ => ?_
  obtain ⟨rfl, rfl⟩ := h₁
  have hS : (s.heap.push { cls := .type "list", data := .seq #[] }).get? s.heap.objs.size = some (listOf #[] 0) := Heap.get?_push_size _ rfl
  have hR1 := hR.rawIn (tk := s.toks) (fun b o e => Heap.get?_push_of_some { cls := .type "list", data := .seq #[] } e) (size_none (Nat.le_refl _)) hS
  refine ⟨⟨_, hS, rfl⟩, PySem.F.args_list_init_2 _ _, ?_⟩
  show wpAny _ f.A.in1.in1 (do let old ← Builtin.List.listItems (.ref s.heap.objs.size); Builtin.List.listUpdate (.ref s.heap.objs.size) (fun _ => #[]); letGo old.toList.reverse; Builtin.List.listExtendWith (.ref s.heap.objs.size) (.ref x) .none) _ _ _
  refine wpAny_bind ?_
  unfold Builtin.List.listItems
  refine wpAny_bind (wpAny_seqItems hS rfl (wpAny_pure ?_))
  show wpAny _ f.A.in1.in1 (updateSeq s.heap.objs.size (fun _ => #[]) >>= fun _ => letGo (#[] : Array Value).toList.reverse >>= fun _ => Builtin.List.listExtendWith (.ref s.heap.objs.size) (.ref x) .none) _ _ _
  refine wpAny_bind (wpAny_updateSeq hS rfl ?_)
  have hS₂ := Heap.get?_update_self (Obj.mapSeq (fun _ => (#[] : Array Value))) hS rfl
  have hR2 := (hR1.rawTurn (tk := s.toks) (fun b y hb e => (Heap.get?_update_other _ _ (Ne.symm hb)).trans e) (Nat.le_refl _)).1 _ hS₂
  refine wpAny_bind (wpAny_letGo ?_)
  obtain ⟨as, ho⟩ := T.inst _ _ _ hJ
  obtain ⟨ox, od, I⟩ := hR2.instAt ho hx
  obtain ⟨m, Fm, -⟩ := hR2.fr
  have hxS : s.heap.objs.size ≠ x := by
    obtain ⟨ox', od', I'⟩ := hR.instAt ho hx
    exact Nat.ne_of_gt (Heap.lt_size I'.at_)
  unfold Builtin.List.listExtendWith
  refine wpAny_bind (I.type.here ?_)
  have h1 : Builtin.List.listSameRef (.ref s.heap.objs.size) (.ref x) = false := by simp [Builtin.List.listSameRef, hxS]
  have h2 : (Value.ref C == Value.type "list") = false := by rfl
  have h3 : (Value.ref C == Value.type "tuple") = false := by rfl
  simp only [h1, h2, h3, Bool.or_false, Bool.false_eq_true, if_false]
  have near : Near f f.A.in1.in1 := ⟨rfl, hf.handled, rfl, by show f.A.units + 1 + 1 ≤ _; omega⟩
  refine wpAny_bind (owit_iter Fm hf.gd.inK I O.iter O.iterf (wpAny_call (T.iter _ near all objs next _ hJ ρ _ x _ hR2 hx fun ρ₁ s₃ le₁ hR3 => ?_)))
  obtain ⟨ox3, od3, I3⟩ := hR3.instAt ho (le₁.of _ _ hx)
  obtain ⟨m3, Fm3, -⟩ := hR3.fr
  refine owit_it Fm3 hf.gd.inK I3 O.next ?_
  refine wpAny_bind (wpAny_holding ?_)
  unfold Builtin.List.listLengthHint specialOf
  have X3 := hf.gd.inK.keeps Fm3.keep
  refine wpAny_bind (wpAny_bind (I3.type.here ((looks_findIn X3 O.len).here ?_)))
  show wpAny _ f.A.in1.in1 ((typeOf (.ref x) >>= fun t => typeLookup t (Str.ofString "__length_hint__")) >>= _) _ _ _
  refine wpAny_bind (wpAny_bind (I3.type.here ((looks_findIn X3 O.hint).here ?_)))
  refine wpAny_pure ?_
  show wpAny _ f.A.in1.in1 (rule "list.extend.makes-room" >>= fun _ => Builtin.List.listTouch (.ref s.heap.objs.size) >>= fun _ =>
    again (.builtin "list.extend.loop" ⟨[.ref s.heap.objs.size, .ref x, .none], []⟩)) _ _ _
  refine wpAny_bind (wpAny_rule ?_)
  refine wpAny_bind ?_
  show wpAny _ f.A.in1.in1 (updateSeq s.heap.objs.size (·.push .none) >>= fun _ => updateSeq s.heap.objs.size (·.pop)) _ _ _
  have hS3 := hR3.rawAt
  refine wpAny_bind (wpAny_updateSeq hS3 rfl ?_)
  have hS4 := Heap.get?_update_self (Obj.mapSeq (·.push Value.none)) hS3 rfl
  refine wpAny_updateSeq (hz := by seq_fits) hS4 rfl ?_
  have hS5 := Heap.get?_update_self (Obj.mapSeq (·.pop)) hS4 rfl
  have hR5 := (hR3.rawTurn (tk := s₃.toks) (fun b y hb e => (Heap.get?_update_other _ _ (Ne.symm hb)).trans ((Heap.get?_update_other _ _ (Ne.symm hb)).trans e)) (Nat.le_refl _)).1 _ hS5
  have near1 : Near f f.A.in1.in1 := near
  refine wpAny_pure ⟨plainId_quiet PySem.F.plain_extend_loop _, loop_own hf O T hz near1 all [] [] _ objs next ρ₁ _ (by simp) hJ (le₁.of _ _ hx) .nil hR5 fun objs' next' ρ' xs' c' s' hD le hv hR' => ?_⟩
  obtain ⟨ρ₂, le₂, hval₂, hR₂⟩ := hR'.freezeRaw hv hiv hcl hz
  exact ⟨rfl, q objs' next' ρ₂ _ s' hD (le₁.trans (le.trans le₂)) hR₂ hval₂⟩
end
end Mine
end
section
open PySem PySem.W PyProof.Rows PySem.Calls
set_option Elab.async false
set_option maxRecDepth 100000
namespace Mine
theorem wpAny_append {M : Model} {A : Around} {env : Env} {a b : List Stmt} {Q : Flow → Shared → Prop} {E : Value → Shared → Prop} {s : Shared} (h : wpAny M A (execs a env) (fun fl s' => wpAny M A (match fl with | .next => execs b env | g => pure g) Q E s') E s) : wpAny M A (execs (a ++ b) env) Q E s := by
  intro Γ p hΓ
  refine wp_append a p s ?_
  exact Sem.wp_mono _ Γ _ (fun fl p' s' h' => h' Γ p' hΓ) (fun _ _ _ h' => h') p s (h Γ p hΓ)
/-- all the words of a line -/
noncomputable def toks (com : Bool) : Nat → List Nat → Option (List (List Nat))
  | 0, _ => none
  | k + 1, l => match rd com l .sp false [] with
    | none => none
    | some (q, t, ended, r) => if q = false ∧ t = [] then some [] else if ended then some [t] else (toks com k r).map (t :: ·)
theorem ite_some {α : Type} {c : Prop} [Decidable c] {a b : Option α} {x : α} {P : Prop} (h : (if c then a else b) = some x) (ha : a = some x → P) (hb : b = some x → P) : P := by
  by_cases hc : c
  · rw [if_pos hc] at h; exact ha h
  · rw [if_neg hc] at h; exact hb h
theorem rd_end {com : Bool} {l : List Nat} : ∀ {sta : Sta} {q : Bool} {t : List Nat} {q' : Bool} {t' r : List Nat}, rd com l sta q t = some (q', t', true, r) → r = [] := by
  induction l with
  | nil =>
    intro sta q t q' t' r h
    cases sta with
    | sp => exact (congrArg (·.2.2.2) (Option.some.inj h)).symm
    | a => exact (congrArg (·.2.2.2) (Option.some.inj h)).symm
    | _ => exact no' h
  | cons c l ih =>
    intro sta q t q' t' r h
    cases sta with
    | sp => exact ite_some h ih fun h => ite_some h (fun h => (congrArg (·.2.2.2) (Option.some.inj h)).symm) fun h => ite_some h ih fun h => ite_some h ih fun h => ite_some h ih no'
    | a => exact ite_some h (fun h => ite_some h no' fun h => absurd (congrArg (·.2.2.1) (Option.some.inj h)) Bool.false_ne_true) fun h => ite_some h no' fun h => ite_some h ih fun h => ite_some h ih fun h => ite_some h ih no'
    | sq => exact ite_some h ih fun h => ite_some h ih no'
    | dq => exact ite_some h ih fun h => ite_some h ih no'
end Mine
end
section
open PySem PySem.W PyProof.Rows PySem.Calls PySem.SeqAt
set_option Elab.async false
set_option maxRecDepth 100000
namespace Mine
/-! a def whose arguments hold no references: run in a table of its own -/
section
variable {w : World} {os₀ : Glo} {h₀ : Heap} {L : Addr} {outs : Fx} {loc : Loc} {st : St} {ρ : Lab} {s : Shared}
theorem R.iso (r : R w os₀ h₀ L outs loc st ρ s) (hc : (loc.map (·.2)).all closedV = true) :
    ∃ pre, R w os₀ h₀ L { outs with raw := pre ++ outs.raw } loc ⟨[], 0⟩ ⟨fun _ => none, ρ.im⟩ s ∧
      ∀ (loc' : Loc) (st' : St) (ρ' : Lab) (s' : Shared), LabLe ⟨fun _ => none, ρ.im⟩ ρ' → R w os₀ h₀ L { outs with raw := pre ++ outs.raw } loc' st' ρ' s' → LabLe ρ ⟨ρ.of, ρ'.im⟩ ∧ R w os₀ h₀ L outs [] st ⟨ρ.of, ρ'.im⟩ s' := by
  obtain ⟨m, F, hm⟩ := r.fr
  obtain ⟨ns, N, T, nd⟩ := r.led
  obtain ⟨pre, l, rfl, ⟨c, fs, rfl, hcc, hfs⟩, hT⟩ := T.parts
  refine ⟨pre, ⟨⟨m, F, fun x v e => ?_⟩, ⟨_, N, .nil ⟨c, fs, by simp, hcc, hfs⟩, nd⟩, fun _ _ => rfl, r.os, r.gens, r.tok⟩, ?_⟩
  · have hcv : closedV v = true := List.all_eq_true.mp hc v (List.mem_map.mpr ⟨(x, v), getA_mem e, rfl⟩)
    have h := hm x v e
    unfold LocR at h ⊢
    cases hcl : outs.cl.lookup x with
    | some c' =>
      rw [hcl] at h
      rcases h with ⟨k, rfl, -⟩ | e
      · cases hcv
      · exact .inr e
    | none =>
      rw [hcl] at h
      obtain ⟨val, h1, h2⟩ := h
      exact ⟨val, h1, VR.closed (ρ := ρ) (ρ' := ⟨fun _ => none, ρ.im⟩) (fun _ h => h) h2 hcv⟩
  · intro loc' st' ρ' s' le hR
    have le' : LabLe ρ ⟨ρ.of, ρ'.im⟩ := ⟨fun _ _ h => h, le.im⟩
    obtain ⟨m', F', -⟩ := hR.fr
    obtain ⟨ns', N', T', nd'⟩ := hR.led
    obtain ⟨pre₂, l₂, rfl, ⟨c₂, fs₂, rfl, hcc₂, hfs₂⟩, -⟩ := T'.parts
    have Tm : Tab w.params ⟨ρ.of, ρ'.im⟩ (RestIs os₀ outs ρ'.im) st.objs (pre ++ (outs.raw ++ (ρ'.im ++ (c₂ ++ fs₂)))) := (hT (RestIs os₀ outs ρ'.im) _ ⟨c₂, fs₂, rfl, hcc₂, hfs₂⟩).mono le'
    have e : pre₂ ++ ((pre ++ outs.raw) ++ (ρ'.im ++ (c₂ ++ fs₂))) = pre₂ ++ (pre ++ (outs.raw ++ (ρ'.im ++ (c₂ ++ fs₂)))) := by simp
    have N'' : News h₀ L s'.heap (pre₂ ++ (pre ++ (outs.raw ++ (ρ'.im ++ (c₂ ++ fs₂))))) := e ▸ N'
    have nd'' : ((pre₂ ++ (pre ++ (outs.raw ++ (ρ'.im ++ (c₂ ++ fs₂))))).map (·.1)).Nodup := e ▸ nd'
    refine ⟨le', ⟨m', F', fun x v e => by cases e⟩, ⟨_, fun p hp => N'' p (List.mem_append_right _ hp), Tm, ?_⟩, fun j hj => r.free j hj, hR.os, hR.gens, hR.tok⟩
    rw [List.map_append, List.nodup_append] at nd''
    exact nd''.2.1
end
section
variable {prog : Program} {w : World} {K : Frag} {X : Nat}
/-- the contract of a def that makes a closed value out of closed arguments -/
theorem specK_iso (hX : X ≤ 900) {i : FnI} (I : FnOk K i) (hcell : i.cell = []) {sp : List V → List V → St → (V → St → Prop) → Prop} {out : List V → List V → V → Prop}
    (hsp : ∀ vs kvs st k, sp vs kvs st k → vs.length = i.n ∧ vs.all closedV = true ∧ kvs.all closedV = true ∧ ∃ v, closedV v = true ∧ out vs kvs v ∧ k v st)
    (hcl : i.bind.all (fun b => match b.2 with | .const v _ => closedV v | _ => true) = true)
    (h : ∀ (mg mb : Str → Option Value) (os₀ : Glo) (f : FD), f.Ok K mg mb → f.cs = i.sc → f.A.depth < X + 1 → f.A.units < 10 * X + 3 → ∀ vs kvs v, out vs kvs v →
      TB prog w os₀ f i.body (i.bind.map fun b => (b.1, b.2.v vs kvs)) ⟨[], 0⟩ (fun fl _ _ => fl = .ret v)) :
    SpecKOk prog w K X i.f i.kws sp := by
  refine ⟨.of I.keep, ?_⟩
  intro mg mb os₀ f hf A' hfr hh hd hu vs kvs st k hk loc ρ s vals kvals Rr hR hv hkv hl q
  obtain ⟨h1, h2, h3, v, h4, h5, h6⟩ := hsp _ _ _ _ hk
  refine callR I f hf hfr hh (by unfold recursionLimit; omega) hR hv hkv h1 hl.symm ?_
  intro f' f'ok hcs hdep hun _ ρ₁ s₁ le₁ hR₁ back
  have e1 : fnLoc i st.next vs kvs = i.bind.map fun b => (b.1, b.2.v vs kvs) := by unfold fnLoc; rw [hcell]
  have e2 : fnSt i st vs kvs = st := by unfold fnSt; rw [hcell]
  rw [e1, e2] at hR₁
  have hc : ((i.bind.map fun b => (b.1, b.2.v vs kvs)).map (·.2)).all closedV = true := by
    have getc : ∀ (l : List V) (n : Nat), l.all closedV = true → closedV (getN .none n l) = true := by
      intro l
      induction l with
      | nil => intro n _; cases n <;> rfl
      | cons a r ih =>
        intro n hl
        simp only [List.all_cons, Bool.and_eq_true] at hl
        cases n with
        | zero => exact hl.1
        | succ n => exact ih n hl.2
    rw [List.all_eq_true]
    intro v hv'
    obtain ⟨p, hp, rfl⟩ := List.mem_map.mp hv'
    obtain ⟨b, hb, rfl⟩ := List.mem_map.mp hp
    have hb' := List.all_eq_true.mp hcl b hb
    show closedV (b.2.v vs kvs) = true
    cases hbs : b.2 with
    | arg n => exact getc _ _ h2
    | kw n => exact getc _ _ h3
    | const v val => rw [hbs] at hb'; exact hb'
  obtain ⟨raw, hRi, hback⟩ := hR₁.iso hc
  refine h mg mb os₀ (f'.withRaw (raw ++ f'.outs.raw)) (f'ok.withRaw _) hcs (by show f'.A.depth < _; omega) (by show f'.A.units < _; omega) vs kvs v h5 _ s₁ _ _ hRi ?_
  rintro fl loc' st₂ ρ' fv s' rfl le hR' hfl
  cases hfl with | ret hval => ?_
  obtain ⟨le₂, hR₂⟩ := hback _ _ _ _ le hR'
  have hval' : VR ⟨ρ₁.of, ρ'.im⟩ v _ := VR.closed (ρ := ρ') (ρ' := ⟨ρ₁.of, ρ'.im⟩) (fun _ h => h) hval h4
  exact q _ _ _ _ _ h6 (le₁.trans le₂) (back _ _ _ _ (le₁.trans le₂) hR₂) hval'
end
end Mine
end
section
open PySem PySem.W PyProof.Rows PySem.Calls PySem.SeqAt
set_option Elab.async false
set_option maxRecDepth 100000
set_option genSizeOf false
set_option genInjectivity false
namespace Mine
section
variable {prog : Program} {w : World} {K : Frag} {mg mb : Str → Option Value} {os₀ : Glo} {Γ : Gam} {X n : Nat} {f : FD} {loc : Loc} {st : St}
theorem TE.of_run (hX : X ≤ 900) (O : Γ.Ok prog w K X) (hf : f.Ok K mg mb) (hd : f.A.depth + n + 10 < X) (hu : f.A.units + 10 * n + 30 < 10 * X) {p : Path} {e : Expr} {k : V → St → Prop} (h : (run Γ n).E f.cs.names p loc st e (fun _ => k)) : TE prog w os₀ f e loc st k :=
  (sound (mg := mg) (mb := mb) (os₀ := os₀) hX O n).E f ⟨hf, hd, hu⟩ h fun _ _ _ h => h
theorem TE.mono {e : Expr} {k k' : V → St → Prop} (h : TE prog w os₀ f e loc st k) (hk : ∀ v st', k v st' → k' v st') : TE prog w os₀ f e loc st k' :=
  fun ρ s Q Ex hR q => h ρ s Q Ex hR fun v st' ρ' val s' h1 => q v st' ρ' val s' (hk _ _ h1)
theorem TT.mono {e : Expr} {k k' : Bool → St → Prop} (h : TT prog w os₀ f e loc st k) (hk : ∀ v st', k v st' → k' v st') : TT prog w os₀ f e loc st k' :=
  fun ρ s Q Ex hR q => h ρ s Q Ex hR fun v st' ρ' s' h1 => q v st' ρ' s' (hk _ _ h1)
end

/-! the frame of a comprehension -/
noncomputable def isFree : NameKind → Bool
  | .free => true
  | _ => false
theorem isFree_ok {k : NameKind} (h : isFree k = true) : k = .free := by
  cases k with
  | free => rfl
  | _ => exact absurd h Bool.false_ne_true
noncomputable def freeNames : List (Str × NameKind) → List Str
  | [] => []
  | p :: r => match isFree p.2 with | true => p.1 :: freeNames r | false => freeNames r
theorem freeNames_mem {x : Str} {l : List (Str × NameKind)} : (x, NameKind.free) ∈ l → x ∈ freeNames l := by
  induction l with
  | nil => exact fun h => nomatch h
  | cons p r ih =>
    intro h
    show x ∈ (match isFree p.2 with | true => p.1 :: freeNames r | false => freeNames r)
    rcases List.mem_cons.mp h with e | h'
    · rw [← e]; exact .head _
    · cases isFree p.2 with
      | true => exact .tail _ (ih h')
      | false => exact ih h'
theorem freeNames_of {x : Str} {l : List (Str × NameKind)} : x ∈ freeNames l → (x, NameKind.free) ∈ l := by
  induction l with
  | nil => exact fun h => nomatch h
  | cons p r ih =>
    show x ∈ (match isFree p.2 with | true => p.1 :: freeNames r | false => freeNames r) → _
    cases e : isFree p.2 with
    | false => exact fun h => .tail _ (ih h)
    | true =>
      intro h
      rcases List.mem_cons.mp h with h | h
      · rw [h, ← isFree_ok e]; exact .head _
      · exact .tail _ (ih h)
noncomputable def closL (cs : List (Str × Addr)) : List (Str × NameKind) → List (Str × Addr) → List (Str × Addr)
  | [], acc => acc
  | p :: r, acc => match isFree p.2 with | true => closL cs r ((p.1, (cs.lookup p.1).getD 0) :: acc) | false => closL cs r acc
theorem closL_cons {cs : List (Str × Addr)} {p : Str × NameKind} {r : List (Str × NameKind)} {acc : List (Str × Addr)} : closL cs (p :: r) acc = (match isFree p.2 with | true => closL cs r ((p.1, (cs.lookup p.1).getD 0) :: acc) | false => closL cs r acc) := rfl
theorem freeNames_cons {p : Str × NameKind} {r : List (Str × NameKind)} : freeNames (p :: r) = (match isFree p.2 with | true => p.1 :: freeNames r | false => freeNames r) := rfl
theorem free_beq (k : NameKind) : (k == NameKind.free) = isFree k := by cases k <;> rfl
theorem clos_forIn {env : Env} (names : List (Str × NameKind)) : ∀ (acc : List (Str × Addr)), (∀ x ∈ freeNames names, ∃ c, env.cells.lookup x = some c) →
    (forIn names acc (fun (p : Str × NameKind) cs => if (p.2 == NameKind.free) = true then (do let c ← cellOf env p.1; pure (ForInStep.yield ((p.1, c) :: cs))) else pure (ForInStep.yield cs)) : Sem (List (Str × Addr))) = pure (closL env.cells names acc) := by
  induction names with
  | nil => exact fun _ _ => rfl
  | cons p r ih =>
    intro acc h
    rw [List.forIn_cons, closL_cons, free_beq]
    rw [freeNames_cons] at h
    cases e : isFree p.2 with
    | false => rw [e] at h; exact ih acc h
    | true =>
      rw [e] at h
      obtain ⟨c, hc⟩ := h p.1 (.head _)
      rw [show cellOf env p.1 = pure c by unfold cellOf; rw [hc], hc]
      exact ih _ fun y hy => h y (.tail _ hy)
theorem clos_ok {scope : Scope} {env : Env} (h : ∀ x ∈ freeNames scope.names, ∃ c, env.cells.lookup x = some c) : closureFor scope env = pure (closL env.cells scope.names []) := by
  unfold closureFor
  exact congrArg (fun m => m >>= fun s => pure s) (clos_forIn (env := env) scope.names [] h)
theorem closL_out {cs : List (Str × Addr)} {y : Str} {names : List (Str × NameKind)} : ∀ {acc : List (Str × Addr)}, y ∉ freeNames names → (closL cs names acc).lookup y = acc.lookup y := by
  induction names with
  | nil => exact fun _ => rfl
  | cons p r ih =>
    intro acc h
    rw [closL_cons]
    rw [freeNames_cons] at h
    cases e : isFree p.2 with
    | false => rw [e] at h; exact ih h
    | true =>
      rw [e] at h
      have h := not_or.mp (mt List.mem_cons.mpr h)
      refine (ih h.2).trans ?_
      rw [List.lookup_cons, beq_eq_false_iff_ne.mpr h.1]
theorem closL_in {cs : List (Str × Addr)} {y : Str} {c : Addr} (hc : cs.lookup y = some c) {names : List (Str × NameKind)} : ∀ {acc : List (Str × Addr)}, y ∈ freeNames names → (closL cs names acc).lookup y = some c := by
  induction names with
  | nil => exact fun h => nomatch h
  | cons p r ih =>
    intro acc h
    rw [closL_cons]
    rw [freeNames_cons] at h
    cases e : isFree p.2 with
    | false => rw [e] at h; exact ih h
    | true =>
      rw [e] at h
      by_cases hr : y ∈ freeNames r
      · exact ih hr
      · refine (closL_out hr).trans ?_
        have hy := (List.mem_cons.mp h).resolve_right hr
        rw [List.lookup_cons, ← hy, beq_self_eq_true, hc]
        rfl
noncomputable def relK (ks : List (Str × NameKind)) (n : Str) (k : NameKind) : NameKind := match isFree k with
  | true => (match getA n ks with | some c => (match isCell c with | true => .cell | false => .free) | none => .free)
  | false => k
noncomputable def relNames (ks : List (Str × NameKind)) (l : List (Str × NameKind)) : List (Str × NameKind) := l.map fun p => (p.1, relK ks p.1 p.2)
theorem cell_beq (k : Option NameKind) : (k == some NameKind.cell) = (match k with | some c => isCell c | none => false) := by
  cases k with
  | none => rfl
  | some k => cases k <;> rfl
theorem relabel_names {scope : Scope} {env : Env} (hk : env.scope.kind = .function) : (relabel scope env).names = relNames env.scope.names scope.names := by
  unfold relabel
  refine List.map_congr_left fun p _ => ?_
  obtain ⟨n, k⟩ := p
  show (if (k == NameKind.free && env.scope.kind == .function && env.kindOf n == some .cell) = true then (n, NameKind.cell) else (n, k)) = (n, relK env.scope.names n k)
  rw [hk, free_beq, cell_beq, show env.kindOf n = getA n env.scope.names from lookup_getA _ _]
  unfold relK
  cases e : isFree k with
  | false => rfl
  | true =>
    rw [isFree_ok e]
    cases getA n env.scope.names with
    | none => rfl
    | some c => show (if (true && isCell c) = true then (n, NameKind.cell) else (n, NameKind.free)) = (n, match isCell c with | true => .cell | false => .free); cases isCell c <;> rfl
theorem relNames_get {ks : List (Str × NameKind)} {x : Str} {names : List (Str × NameKind)} : getA x (relNames ks names) = (getA x names).map (relK ks x) := by
  induction names with
  | nil => rfl
  | cons p r ih =>
    show (match sEq x p.1 with | true => some (relK ks p.1 p.2) | false => getA x (relNames ks r)) = Option.map _ (match sEq x p.1 with | true => some p.2 | false => getA x r)
    cases h : sEq x p.1 with
    | true => rw [sEq_iff.mp h]; rfl
    | false => exact ih
noncomputable def isCF : NameKind → Bool
  | .cell => true
  | .free => true
  | _ => false
noncomputable def atK (g : NameKind → Bool) (x : Str) (names : List (Str × NameKind)) : Bool := match getA x names with | some k => g k | none => false
theorem atK_ok {g : NameKind → Bool} {x : Str} {names : List (Str × NameKind)} (h : atK g x names = true) : ∃ k, getA x names = some k ∧ g k = true := by
  unfold atK at h
  cases e : getA x names with
  | none => rw [e] at h; exact absurd h Bool.false_ne_true
  | some k => rw [e] at h; exact ⟨k, rfl, h⟩
noncomputable def compOk (ks names : List (Str × NameKind)) (x : Str) : NameKind → Bool
  | .cell => false
  | .local => !(hasS x (freeNames names)) && atK isLocal x names
  | .free => atK isCF x ks
  | _ => true
noncomputable def freeLoc (loc : Loc) : List Str → Loc
  | [] => []
  | x :: r => match getA x loc with
    | some v => (x, v) :: freeLoc loc r
    | none => freeLoc loc r
theorem freeLoc_get {loc : Loc} {y : Str} {v : V} {l : List Str} : getA y (freeLoc loc l) = some v → y ∈ l ∧ getA y loc = some v := by
  induction l with
  | nil => exact fun h => no' h
  | cons x r ih =>
    show getA y (match getA x loc with | some v => (x, v) :: freeLoc loc r | none => freeLoc loc r) = some v → _
    cases e : getA x loc with
    | none => exact fun h => ⟨.tail _ (ih h).1, (ih h).2⟩
    | some u =>
      show (match sEq y x with | true => some u | false => getA y (freeLoc loc r)) = some v → _
      cases hy : sEq y x with
      | true => exact fun h => sEq_iff.mp hy ▸ ⟨.head _, (sEq_iff.mp hy) ▸ e.trans h⟩
      | false => exact fun h => ⟨.tail _ (ih h).1, (ih h).2⟩
/-- what a comprehension's names are -/
structure CompG (f : FD) (scope : Scope) (x : Str) : Prop where
  free : ∀ y ∈ freeNames scope.names, ∃ c, f.outs.cl.lookup y = some c
  loc : getA x scope.names = some .local
  xfree : x ∉ freeNames scope.names
  cell : ∀ y ∈ scope.names, y.2 ≠ .cell
  names : ∀ y ∈ scope.names, y.2 = .local → scope.names.lookup y.1 = some .local
  locs : ∀ y, getA y scope.names = some .local → y ∉ freeNames scope.names
noncomputable abbrev FD.comp (f : FD) (hid : Heap) (C : Addr) (m : Str → Option Value) (cl : List (Str × Addr)) (raw : List (Addr × Obj)) (scope : Scope) : FD :=
  ⟨f.A, hid, C, relabel scope f.env, f.qual, none, f.code, f.frame, ⟨f.outs.fs ++ [(f.L, m)], cl, raw⟩, f.fr⟩
section
variable {prog : Program} {w : World} {K : Frag} {mg mb : Str → Option Value} {os₀ : Glo} {f : FD} {loc : Loc} {st : St} {ρ : Lab} {s : Shared} {E : Value → Shared → Prop}
theorem relK_free {ks : List (Str × NameKind)} {x : Str} {k : NameKind} (h : isFree k = false) : relK ks x k = k := by unfold relK; rw [h]
theorem relK_cf {ks : List (Str × NameKind)} {x : Str} {k : NameKind} (h : isFree k = true) : isCF (relK ks x k) = true := by
  unfold relK
  rw [h]
  cases getA x ks with
  | none => rfl
  | some c => show isCF (match isCell c with | true => .cell | false => .free) = true; cases isCell c <;> rfl
theorem R.rawSwap {h₀ : Heap} {L : Addr} {outs : Fx} {a b : Addr × Obj} {raw : List (Addr × Obj)} (r : R w os₀ h₀ L { outs with raw := a :: b :: raw } loc st ρ s) : R w os₀ h₀ L { outs with raw := b :: a :: raw } loc st ρ s := by
  obtain ⟨m, M⟩ := r.fr
  exact (r.relay (outs' := { outs with raw := b :: a :: raw }) (im' := ρ.im) (fun _ h => h) rfl rfl M M.F (fun pre l N nd => News.perm (List.Perm.append_left _ (List.Perm.append_right _ (List.Perm.swap a b raw))) N nd) (Nat.le_refl _)).2
theorem iterV_len {v : V} {val : Value} {items : List V} (hv : VR ρ v val) (e : iterV v = some items) : items.length ≤ sizeLine := by
  have lists : itemsV v = some items → items.length ≤ sizeLine := fun e => by obtain ⟨a, xs, n, X⟩ := hv.frozen e; exact X.sz
  cases v with
  | tr _ => exact lists e
  | tri _ => exact lists e
  | trs _ => exact lists e
  | rng n =>
    have e : (match decide (n ≤ sizeLine) with | true => some ((List.range n).map fun i => V.int (i : Nat)) | false => none) = some items := e
    cases hn : decide (n ≤ sizeLine) with
    | false => rw [hn] at e; exact no' e
    | true => rw [hn] at e; rw [← Option.some.inj e, List.length_map, List.length_range]; exact of_decide_eq_true hn
  | str x =>
    obtain ⟨t, _, hx⟩ := hv.inv
    rw [← Option.some.inj e, List.length_map]
    exact hx
  | _ => exact no' e
end
end Mine
end
section
open PySem PySem.W PyProof.Rows PySem.Calls PySem.SeqAt
set_option Elab.async false
set_option maxRecDepth 100000
set_option genSizeOf false
set_option genInjectivity false
namespace Mine
/-! comprehensions, for any target and any use -/
noncomputable def compOkC (ks names : List (Str × NameKind)) (y : Str) (k : NameKind) : Bool := match isCell k with
  | true => true
  | false => compOk ks names y k
noncomputable def compGoodC (ks names : List (Str × NameKind)) : Bool := (names.all fun p => compOkC ks names p.1 p.2) && (cellsGood names && (freeNames names).all fun y => !(hasS y (cellNames names)))
structure CompC (f : FD) (scope : Scope) : Prop where
  free : ∀ y ∈ freeNames scope.names, ∃ c, f.outs.cl.lookup y = some c
  fcell : ∀ y ∈ freeNames scope.names, y ∉ cellNames scope.names
  nd : (cellNames scope.names).Nodup
  cell : ∀ y ∈ cellNames scope.names, getA y scope.names = some .cell
  names : ∀ y ∈ scope.names, y.2 = .local → scope.names.lookup y.1 = some .local
  locs : ∀ y, getA y scope.names = some .local → y ∉ freeNames scope.names
noncomputable abbrev clC (f : FD) (scope : Scope) (C : Addr) : List (Str × Addr) := accL id (C + 1) (cellNames scope.names) (closL f.outs.cl scope.names [])
theorem isCell_ok {k : NameKind} (h : isCell k = true) : k = .cell := by
  cases k with
  | cell => rfl
  | _ => exact absurd h Bool.false_ne_true
section
variable {prog : Program} {w : World} {K : Frag} {mg mb : Str → Option Value} {os₀ : Glo} {f : FD}
theorem compC (hf : f.Ok K mg mb) {scope : Scope} (h : compGoodC f.cs.names scope.names = true) : CompC f scope := by
  have h := Bool.and_eq_true_iff.mp h
  have h2 := Bool.and_eq_true_iff.mp h.2
  have h3 := Bool.and_eq_true_iff.mp h2.1
  have all : ∀ y k, (y, k) ∈ scope.names → isCell k = false → compOk f.cs.names scope.names y k = true := fun y k hy e => by
    have := List.all_eq_true.mp h.1 (y, k) hy
    have this : (match isCell k with | true => true | false => compOk f.cs.names scope.names y k) = true := this
    rw [e] at this
    exact this
  have locs : ∀ y, (y, NameKind.local) ∈ scope.names → hasS y (freeNames scope.names) = false ∧ getA y scope.names = some .local := fun y hy => by
    have g := Bool.and_eq_true_iff.mp (show (!(hasS y (freeNames scope.names)) && atK isLocal y scope.names) = true from all y _ hy rfl)
    obtain ⟨k, e, hk⟩ := atK_ok g.2
    exact ⟨(Bool.not_eq_true' _).mp g.1, isLocal_ok hk ▸ e⟩
  refine ⟨fun y hy => ?_, fun y hy hm => ?_, nodupS_ok h3.2, fun y hy => ?_, fun y hy e => ?_, fun y e hm => ?_⟩
  · obtain ⟨k, e, hk⟩ := atK_ok (show atK isCF y f.cs.names = true from all y _ (freeNames_of hy) rfl)
    cases k with
    | cell => exact hf.cel y ((lookup_getA _ _).trans e)
    | free => exact hf.fre y ((lookup_getA _ _).trans e)
    | _ => exact absurd hk Bool.false_ne_true
  · have := List.all_eq_true.mp h2.2 y hy
    rw [hasS_of_mem hm] at this
    exact absurd this Bool.false_ne_true
  · have := List.all_eq_true.mp h3.1 y hy
    revert this
    cases getA y scope.names with
    | none => exact fun h => absurd h Bool.false_ne_true
    | some k => exact fun h => congrArg some (isCell_ok h)
  · obtain ⟨a, b⟩ := y
    subst e
    exact (lookup_getA _ _).trans (locs a hy).2
  · have g := (locs y (getA_mem e)).1
    rw [hasS_of_mem hm] at g
    exact absurd g.symm Bool.false_ne_true
theorem CompC.lookup {scope : Scope} (g : CompC f scope) (C : Addr) (y : Str) : (clC f scope C).lookup y = (match idxS y (cellNames scope.names) with | some i => some (C + 1 + i) | none => (closL f.outs.cl scope.names []).lookup y) := by
  rw [lookup_getA, accL_get g.nd, lookup_getA]
  rfl
theorem CompC.notCell {scope : Scope} (g : CompC f scope) {y : Str} (h : getA y scope.names = some .local) : y ∉ cellNames scope.names := fun hm => by
  rw [g.cell y hm] at h
  exact nomatch h
theorem CompC.lookCell {scope : Scope} (g : CompC f scope) {C : Addr} {y : Str} (h : y ∈ cellNames scope.names) : ∃ c, (clC f scope C).lookup y = some c := by
  obtain ⟨i, e⟩ := idxS_mem h
  exact ⟨_, (g.lookup C y).trans (by rw [e])⟩
theorem CompC.lookFree {scope : Scope} (g : CompC f scope) {C : Addr} {y : Str} (h : y ∈ freeNames scope.names) : ∃ c, f.outs.cl.lookup y = some c ∧ (clC f scope C).lookup y = some c := by
  obtain ⟨c, hc⟩ := g.free y h
  refine ⟨c, hc, (g.lookup C y).trans ?_⟩
  rw [idxS_none (g.fcell y h)]
  exact closL_in hc h
theorem FD.comp_okC (hf : f.Ok K mg mb) {hid : Heap} {C : Addr} {m : Str → Option Value} {raw : List (Addr × Obj)} {scope : Scope} (g : CompC f scope) (hk : scope.kind = .function) (G : Gd K mg mb hid) :
    (f.comp hid C m (clC f scope C) raw scope).Ok K mg mb := by
  have hlk : ∀ y k, (relabel scope f.env).names.lookup y = some k → ∃ k₀, getA y scope.names = some k₀ ∧ relK f.cs.names y k₀ = k := fun y k e => by
    rw [relabel_names hf.kind, lookup_getA, relNames_get] at e; exact Option.map_eq_some_iff.mp e
  have some_of : ∀ y k, (relabel scope f.env).names.lookup y = some k → isCF k = true → ∃ c, (clC f scope C).lookup y = some c := fun y k e hkk => by
    obtain ⟨k₀, h1, h2⟩ := hlk y k e
    cases hfr : isFree k₀ with
    | true =>
      obtain ⟨c, -, hc⟩ := g.lookFree (C := C) (freeNames_mem (isFree_ok hfr ▸ getA_mem h1))
      exact ⟨c, hc⟩
    | false =>
      rw [relK_free hfr] at h2
      subst h2
      cases k₀ with
      | cell => exact g.lookCell (cellNames_mem (getA_mem h1))
      | free => exact absurd hfr.symm Bool.false_ne_true
      | _ => exact absurd hkk Bool.false_ne_true
  refine ⟨fun env he => ?_, hf.frames, hk, G, hf.handled, fun y hy => ?_, fun y hy => some_of y _ hy rfl, fun y hy => some_of y _ hy rfl⟩
  · obtain ⟨h1, a, h2, h3⟩ := hf.behind env he
    refine ⟨h1, a, h2, .inr ?_⟩
    rcases h3 with e | ⟨p, hp, e⟩
    · exact ⟨(f.L, m), List.mem_append_right _ (.head _), e⟩
    · exact ⟨p, List.mem_append_left _ hp, e⟩
  · obtain ⟨k₀, h1, h2⟩ := hlk y _ hy
    cases hfr : isFree k₀ with
    | true => have := relK_cf (ks := f.cs.names) (x := y) hfr; rw [h2] at this; exact absurd this Bool.false_ne_true
    | false =>
      rw [relK_free hfr] at h2
      refine (g.lookup C y).trans ?_
      rw [idxS_none (g.notCell (h2 ▸ h1))]
      exact closL_out (g.locs y (h2 ▸ h1))
end
/-! the new names' objects -/
theorem newEnvC {M : Model} {A : Around} {E : Value → Shared → Prop} {s : Shared} {scope : Scope} {globals : Addr} {cl : List (Str × Addr)} {qual : Str} {env : Env} {Q : Env → Shared → Prop}
    (h : Q (newEnv scope s.heap.objs.size globals (cellsFrom (s.heap.objs.size + 1) scope.names cl) qual none .none (some env) builtinsNs) { s with heap := pushCells (s.heap.push { cls := .type "dict", data := .dict #[] }) scope.names }) :
    wpAny M A (newFunctionEnv scope globals cl [] qual none .none (some env)) Q E s := by
  simp only [newFunctionEnv, Option.isSome_some, if_true]
  refine wpAny_bind (wpAny_alloc ?_)
  refine wpAny_bind (wpAny_layCells _ (fun name kind cells => by cases hkc : kind == NameKind.cell <;> simp [hkc]) _ _ _ _ ?_)
  rw [show ({ s with heap := s.heap.push { cls := .type "dict", data := .dict #[] } } : Shared).heap.objs.size = s.heap.objs.size + 1 from Heap.size_push ..]
  exact wpAny_bind (wpAny_pure (wpAny_pure h))
theorem newCells {h : Heap} {names : List (Str × NameKind)} (nd : (cellNames names).Nodup) {i : Nat} {y : Str} (hy : (cellNames names)[i]? = some y) : ∃ o, (pushCells h names).get? (h.objs.size + i) = some o ∧ o.data = .cell none := by
  have ok := cellsFrom_ok names h h.objs.size [] ⟨fun _ _ hm => (nomatch hm), List.Pairwise.nil⟩ (Nat.le_refl _)
  have hl : getA y (cellsFrom h.objs.size names []) = some (h.objs.size + i) := by
    rw [cellsFrom_eq, accL_get nd, idxS_at nd hy]
    rfl
  obtain ⟨⟨o, ho, hd⟩, -⟩ := ok.empty y _ (getA_mem hl)
  exact ⟨o, ho, hd⟩
section
variable {prog : Program} {w : World} {K : Frag} {mg mb : Str → Option Value} {os₀ : Glo} {g : FD} {loc : Loc} {st : St} {ρ : Lab} {s : Shared} {E : Value → Shared → Prop} {I D : Addr} {raw0 : List (Addr × Obj)}
/-- an item made, and put behind the list -/
theorem comp_elt {elt : Expr} {xs : List Value} {c : Nat} {oI : Obj} {k1 : V → St → Prop} (h : TE prog w os₀ (g.withRaw ((I, oI) :: (D, listOf xs.toArray c) :: raw0)) elt loc st k1) (hz : xs.length ≤ sizeLine)
    (hR : R w os₀ g.h₀ g.L (g.withRaw ((I, oI) :: (D, listOf xs.toArray c) :: raw0)).outs loc st ρ s) {Z : Shared → Prop}
    (z : ∀ u st' ρ' val s', k1 u st' → LabLe ρ ρ' → VR ρ' u val → R w os₀ g.h₀ g.L (g.withRaw ((I, oI) :: (D, listOf (xs ++ [val]).toArray (c + 1)) :: raw0)).outs loc st' ρ' s' → Z s') :
    wpAny (model prog w) g.A (eval elt g.env) (fun y s₄ => wpAny (model prog w) g.A (call (.builtin "list.append") [.ref D, y]) (fun _ s₅ => Z s₅) E s₄) E s := by
  refine h ρ s _ E hR fun u st₆ ρ₆ val s₆ hk le hR₆ hval => ?_
  have hsw := R.rawSwap (outs := g.outs) hR₆
  refine append_at (hsz := by show xs.toArray.size ≤ sizeLine; rw [List.size_toArray]; exact hz) (R.rawAt (outs := g.outs) hsw) fun h₇ hs₇ hD₇ => ?_
  rw [List.push_toArray] at hD₇
  have hR₇ := (R.rawTurn (outs := g.outs) hsw (h' := h₇) (tk := s₆.toks) (fun b z hb e => hs₇.extBut b z hb e) (Nat.le_refl _)).1 (listOf (xs ++ [val]).toArray (c + 1)) hD₇
  exact z _ _ _ _ _ hk le hval (R.rawSwap (outs := g.outs) hR₇)
/-- a comprehension under way -/
structure CompAt (w : World) (os₀ : Glo) (g : FD) (loc : Loc) (ρ : Lab) (I D : Addr) (raw0 : List (Addr × Obj)) (items : List V) (J : List V → List V → St → Prop) (Si : Nat → Heap → Prop) (n : Nat) (s : Shared) (i : Nat) (acc : List V) (xs : List Value) (c : Nat) (o : Obj) (st : St) (ρ' : Lab) : Prop where
  le : i ≤ items.length
  n : n = items.length + 1 - i
  at_ : Si i s.heap
  J : J (items.drop i) acc st
  al : acc.length = i
  lab : LabLe ρ ρ'
  vr : VRs ρ' acc xs
  R : R w os₀ g.h₀ g.L (g.withRaw ((I, o) :: (D, listOf xs.toArray c) :: raw0)).outs loc st ρ' s
/-- the target is bound -/
noncomputable def Binds (prog : Program) (w : World) (os₀ : Glo) (g : FD) (x : Str) (loc : Loc) (bl : V → Loc) (bs : V → St → St) (J : List V → List V → St → Prop) : Prop :=
  ∀ raw v vs acc st, J (v :: vs) acc st → ∀ (ρ : Lab) (s : Shared) (val : Value) (Q : Unit → Shared → Prop) (E : Value → Shared → Prop), R w os₀ g.h₀ g.L (g.withRaw raw).outs loc st ρ s → VR ρ v val →
    (∀ s', R w os₀ g.h₀ g.L (g.withRaw raw).outs (bl v) (bs v st) ρ s' → Q () s') → wpAny (model prog w) g.A (storeName g.env x val) Q E s
theorem comp_loop {elt iter : Expr} {x : Str} {px : Pos} {scope : Scope} {pos : Pos} {items : List V} (hlen : items.length ≤ sizeLine) {J : List V → List V → St → Prop} {bl : V → Loc} {bs : V → St → St} (hb : Binds prog w os₀ g x loc bl bs J)
    (hw : ∀ v y u, getA y loc = some u → getA y (bl v) = some u)
    (turn : ∀ raw v vs acc st, J (v :: vs) acc st → TE prog w os₀ (g.withRaw raw) elt (bl v) (bs v st) (fun u st' => J vs (acc ++ [u]) st'))
    {fp : List Addr} {P : Nat → Value → Prop} {Si : Nat → Heap → Prop} (W : ItW prog w g.A ρ items I fp P Si) {o₀ : Obj} (hS0 : Si 0 s.heap) (hJ : J items [] st) (hR : R w os₀ g.h₀ g.L (g.withRaw ((I, o₀) :: (D, listOf ([] : List Value).toArray 0) :: raw0)).outs loc st ρ s) {Rr : Result → Shared → Prop}
    (fin : ∀ acc st' ρ' xs c s', J [] acc st' → LabLe ρ ρ' → VRs ρ' acc xs → acc.length ≤ sizeLine → R w os₀ g.h₀ g.L (g.withRaw ((D, listOf xs.toArray c) :: raw0)).outs loc st' ρ' s' → Rr (.ok .next) s') :
    codeAny (model prog w) g.A (.compLoop (.ListComp elt [⟨.Name x px, iter, [], 0⟩] scope pos) 0 (.ref I) (.ref D) g.env) Rr s := by
  refine codeAny_compLoop_tests (fun n s' => ∃ i acc xs c oI st' ρ', CompAt w os₀ g loc ρ I D raw0 items J Si n s' i acc xs c oI st' ρ') ?_ (items.length + 1)
    ⟨0, [], [], 0, o₀, st, ρ, Nat.zero_le _, rfl, hS0, hJ, rfl, .refl _, .nil, hR⟩
  rintro n s' ⟨i, acc, xs, c, oI, st', ρ', X⟩
  rw [X.n]
  have hR' := X.R
  by_cases hlt : i < items.length
  · refine wpAny_with_toks (n := s'.toks) (Nat.le_refl _) (W.walks.item i s' _ _ hlt X.at_ fun y h' tk hP hS' hk htk => ?_)
    obtain ⟨o₂, ho₂⟩ := W.alive _ _ hS'
    have hR₂ := (R.rawTurn (outs := g.outs) hR' (tk := tk) (fun b x hb e => hk b x (fun h => hb (List.mem_singleton.mp h)) e) htk).1 o₂ ho₂
    have hJ' := X.J
    rw [List.drop_eq_getElem_cons hlt] at hJ'
    show wpAny _ _ (assign (.Name x px) _ y) _ _ _
    refine wpAny_assign_Name (hb _ _ _ _ _ hJ' ρ' _ y _ _ hR₂ ((W.vals i y hP _ (List.getElem?_eq_getElem hlt)).mono X.lab) fun s₄ hR₄ => ?_)
    have hxl : xs.length ≤ i := X.vr.length ▸ Nat.le_of_eq X.al
    refine wpAny_tests_nil ?_
    rw [if_pos rfl]
    refine comp_elt (turn ((I, o₂) :: (D, listOf xs.toArray c) :: raw0) items[i] (items.drop (i + 1)) acc st' hJ') (Nat.le_trans hxl (Nat.le_trans (Nat.le_of_lt hlt) hlen)) hR₄ fun u st₆ ρ₆ val s₆ hJ₆ le₆ hval hR₆ => ?_
    exact ⟨_, less_turn hlt, i + 1, _, _, _, o₂, _, _, hlt, rfl, W.frame hS' ho₂ (R.rawAt (outs := g.outs) hR₆) (fun p hp => hR₂.imAt (X.lab.im _ hp)) (fun p hp => hR₆.imAt (le₆.im _ (X.lab.im _ hp))), hJ₆, by rw [List.length_append, X.al]; rfl, X.lab.trans le₆, (X.vr.mono le₆).append (.cons hval .nil), hR₆.weak (hw _)⟩
  · have hie : i = items.length := Nat.le_antisymm X.le (Nat.not_lt.mp hlt)
    have hJ' := X.J
    rw [hie, List.drop_length] at hJ'
    refine wpAny_with_toks (n := s'.toks) (Nat.le_refl _) (W.walks.done s' _ _ (hie ▸ X.at_) fun h' tk hk htk => ?_)
    exact fin acc st' ρ' xs c _ hJ' X.lab X.vr (Nat.le_trans (Nat.le_of_eq (X.al.trans hie)) hlen) (R.rawTurn (outs := g.outs) hR' (tk := tk) (fun b x hb e => hk b x (fun h => hb (List.mem_singleton.mp h)) e) htk).2
end
end Mine
end
section
open PySem PySem.W PyProof.Rows PySem.Calls PySem.SeqAt
set_option Elab.async false
set_option maxRecDepth 100000
set_option genSizeOf false
set_option genInjectivity false
namespace Mine
noncomputable def compOf (env : Env) (use : Option (Value → Sem Unit)) : Expr → Sem Value
  | .ListComp elt gens scope pos => comprehension (.ListComp elt gens scope pos) scope env (firstIterPos gens pos) (newList []) (firstAsync gens) (firstIter gens env) use
  | _ => pure .none
/-- what may come after a comprehension -/
noncomputable def PC (prog : Program) (w : World) (os₀ : Glo) (f : FD) (loc : Loc) (ρ : Lab) (k : V → St → Prop) (use : Option (Value → Sem Unit)) (Q : Value → Shared → Prop) (E : Value → Shared → Prop) : Prop :=
  ∀ v st' ρ' val C oC m s', k v st' → LabLe ρ ρ' → ObjNs oC m → R w os₀ f.h₀ f.L { f.outs with raw := (C, oC) :: f.outs.raw } loc st' ρ' s' → VR ρ' v val → compPost (model prog w) f.A E use Q val C (.ok .next) s'
/-- a comprehension, however its list is used -/
noncomputable def CT (prog : Program) (w : World) (os₀ : Glo) (f : FD) (e : Expr) (loc : Loc) (st : St) (k : V → St → Prop) : Prop :=
  ∀ use ρ s Q E, R w os₀ f.h₀ f.L f.outs loc st ρ s → PC prog w os₀ f loc ρ k use Q E → wpAny (model prog w) f.A (compOf f.env use e) Q E s
/-- what the list becomes -/
inductive CFin (k : V → St → Prop) (acc : List V) (st : St) : Prop
  | frz {v : V} : itemsV v = some acc → acc.all closedV = true → k v st → CFin k acc st
  | nums {ns : List Int} : acc = ns.map .int → k (.ref st.next) ⟨(st.next, .nums ns) :: st.objs, st.next + 1⟩ → CFin k acc st
  | list : k (.ref st.next) ⟨(st.next, .list acc) :: st.objs, st.next + 1⟩ → CFin k acc st
section
variable {w : World} {os₀ : Glo} {h₀ : Heap} {L : Addr} {outs : Fx} {loc : Loc} {st : St} {ρ : Lab} {s : Shared}
theorem R.labelRaw {S : Addr} {ob : Obj} {raw : List (Addr × Obj)} {o : O} (r : R w os₀ h₀ L { outs with raw := (S, ob) :: raw } loc st ρ s) (ho : ∀ ρ', LabLe ρ ρ' → OAt w.params ρ' o S [(S, ob)]) :
    LabLe ρ (ρ.put st.next S) ∧ R w os₀ h₀ L { outs with raw := raw } loc ⟨(st.next, o) :: st.objs, st.next + 1⟩ (ρ.put st.next S) s := by
  obtain ⟨m, M⟩ := r.fr
  obtain ⟨ns, D⟩ := r.led
  obtain ⟨pre, l, X⟩ := D.T.parts
  obtain ⟨c, fs, Y⟩ := X.r
  have le := Lab.put_le (a := S) (r.free _ (Nat.le_refl _))
  have e := X.e
  rw [Y.e] at e
  have P := News.perm (List.perm_middle (a := (S, ob)) (l₁ := pre) (l₂ := raw ++ (ρ.im ++ (c ++ fs)))).symm (e ▸ D.N) (e ▸ D.nd)
  exact ⟨le, ⟨m, M.F, fun x v e => (M.hm x v e).mono le⟩, ⟨_, P.1, .cons (Lab.put_self ..) (ho _ le) ((X.put (RestIs os₀ { outs with raw := raw } ρ.im) _ ⟨c, fs, rfl, Y.ct, Y.fr⟩).mono le), P.2⟩, Lab.put_free r.free, r.os, r.gens, r.tok⟩
structure Gone (w : World) (os₀ : Glo) (h₀ : Heap) (L : Addr) (outs : Fx) (loc : Loc) (k : V → St → Prop) (ρ : Lab) (D : Addr) (s : Shared) (v : V) (st : St) (ρ' : Lab) : Prop where
  k : k v st
  le : LabLe ρ ρ'
  v : VR ρ' v (.ref D)
  R : R w os₀ h₀ L outs loc st ρ' s
theorem CFin.go {k : V → St → Prop} {acc : List V} (h : CFin k acc st) {xs : List Value} {D : Addr} {c : Nat} {raw : List (Addr × Obj)} (hxs : VRs ρ acc xs) (hl : acc.length ≤ sizeLine) (r : R w os₀ h₀ L { outs with raw := (D, listOf xs.toArray c) :: raw } loc st ρ s) :
    ∃ v st₂ ρ₂, Gone w os₀ h₀ L { outs with raw := raw } loc k ρ D s v st₂ ρ₂ := by
  cases h with
  | frz h1 h2 h3 =>
    obtain ⟨ρ₂, le₂, hv, hR₂⟩ := r.freezeRaw (outs := outs) hxs h1 h2 hl
    exact ⟨_, _, ρ₂, h3, le₂, hv, hR₂⟩
  | @nums ns e hk =>
    subst e
    obtain ⟨le2, hR2⟩ := R.labelRaw (outs := outs) (o := .nums ns) r fun ρ'' le' => .nums hxs.to_ints (List.length_map (as := ns) _ ▸ hl)
    exact ⟨_, _, _, hk, le2, .ref (Lab.put_self ..), hR2⟩
  | list hk =>
    obtain ⟨le2, hR2⟩ := R.labelRaw (outs := outs) (o := .list acc) r fun ρ'' le' => .list (hxs.mono le') hl
    exact ⟨_, _, _, hk, le2, .ref (Lab.put_self ..), hR2⟩
end
theorem ItW.mono {prog : Program} {w : World} {A : Around} {ρ ρ' : Lab} {items : List V} {I : Addr} {fp : List Addr} {P : Nat → Value → Prop} {Si : Nat → Heap → Prop} (W : ItW prog w A ρ items I fp P Si) (le : LabLe ρ ρ') : ItW prog w A ρ' items I fp P Si :=
  ⟨W.walks, fun i x h v e => (W.vals i x h v e).mono le, fun b hb => (W.fps b hb).imp_right fun ⟨o, ho⟩ => ⟨o, le.im _ ho⟩, W.alive⟩
section
variable {prog : Program} {w : World} {K : Frag} {mg mb : Str → Option Value} {os₀ : Glo} {f : FD} {loc : Loc} {st : St}
theorem CT.core (hf : f.Ok K mg mb) {elt iter : Expr} {x : Str} {px : Pos} {scope : Scope} {pos : Pos} (hg : compGoodC f.cs.names scope.names = true) (hkind : scope.kind = .function) (hset : noSet iter = true)
    {loc₀ : Loc} (hl : accL V.ref st.next (cellNames scope.names) (freeLoc loc (freeNames scope.names)) = loc₀) (J : List V → List V → St → Prop) {bl : V → Loc} {bs : V → St → St} {k : V → St → Prop}
    (hi : TE prog w os₀ f iter loc st (fun v st' => st' = st ∧ ∃ items, iterV v = some items ∧ J items [] ⟨cellTab st.next (cellNames scope.names) [] st.objs, st.next + (cellNames scope.names).length⟩))
    (hb : ∀ f' : FD, f'.Ok K mg mb → f'.cs.names = relNames f.cs.names scope.names → Binds prog w os₀ f' x loc₀ bl bs J)
    (hw : ∀ v y u, getA y loc₀ = some u → getA y (bl v) = some u)
    (turn : ∀ f' : FD, f'.Ok K mg mb → f'.cs.names = relNames f.cs.names scope.names → f'.A = f.A → ∀ v vs acc st', J (v :: vs) acc st' → TE prog w os₀ f' elt (bl v) (bs v st') (fun u st' => J vs (acc ++ [u]) st'))
    (done : ∀ acc st', J [] acc st' → CFin k acc st') : CT prog w os₀ f (.ListComp elt [⟨.Name x px, iter, [], 0⟩] scope pos) loc st k := by
  intro use ρ s Q E hR q
  have G := compC hf hg
  show wpAny _ _ (comprehension (.ListComp elt [⟨.Name x px, iter, [], 0⟩] scope pos) scope f.env _ (newList []) false (eval iter f.env) use) _ _ _
  refine wpAny_comprehension_free rfl (folded_plain hset) (clos_ok G.free) hkind G.names (hi ρ s _ _ hR fun v st₁ ρ₁ val s₁ ⟨est, items, hit, hJ⟩ le₁ hR₁ hv => ?_)
  subst est
  refine iter_wp hR₁ hf.handled hv hit fun o fp P Si W hS0 => ?_
  obtain ⟨o₀, ho₀⟩ := W.alive 0 _ hS0
  have hRi := hR₁.rawIn (tk := s₁.toks) push_keeps (size_none (Nat.le_refl _)) ho₀ (Nat.le_refl _)
  refine wpAny_newObj_type ?_
  generalize hs₂ : ({ s₁ with heap := s₁.heap.push o } : Shared) = s₂ at hRi ⊢
  have hS0' : Si 0 s₂.heap := by rw [← hs₂]; exact hS0
  have hRd := hRi.rawIn (tk := s₂.toks) (a := s₂.heap.objs.size) (o := listOf ([] : List Value).toArray 0) (push_keeps (o := listOf ([] : List Value).toArray 0)) (size_none (Nat.le_refl _)) (Heap.get?_push_size _ rfl) (Nat.le_refl _)
  generalize hs₃ : ({ s₂ with heap := s₂.heap.push (listOf ([] : List Value).toArray 0) } : Shared) = s₃ at hRd ⊢
  refine newEnvC ?_
  rw [cellsFrom_eq]
  have hk₁ : ∀ b u, s₃.heap.get? b = some u → (pushCells (s₃.heap.push { cls := .type "dict", data := .dict #[] }) scope.names).get? b = some u := fun b u e => pushCells_keeps _ _ b u (push_keeps _ _ e)
  have hns₁ : (pushCells (s₃.heap.push { cls := .type "dict", data := .dict #[] }) scope.names).Ns s₃.heap.objs.size (fun _ => none) := (Heap.Ns.new s₃.heap (.type "dict")).keeps (pushCells_keeps _ _)
  have hce : ∀ i y, (cellNames scope.names)[i]? = some y → ∃ o, (pushCells (s₃.heap.push { cls := .type "dict", data := .dict #[] }) scope.names).get? (s₃.heap.objs.size + 1 + i) = some o ∧ o.data = .cell none := fun i y hy => by
    have := newCells (h := s₃.heap.push { cls := .type "dict", data := .dict #[] }) G.nd hy
    rw [Heap.size_push] at this
    exact this
  generalize pushCells (s₃.heap.push { cls := .type "dict", data := .dict #[] }) scope.names = h₁ at hk₁ hns₁ hce ⊢
  have hRd : R w os₀ f.h₀ f.L (f.withRaw ((s₂.heap.objs.size, listOf ([] : List Value).toArray 0) :: (s₁.heap.objs.size, o₀) :: f.outs.raw)).outs loc st₁ ρ₁ s₃ := hRd
  have hS : Si 0 h₁ := W.walks.frame _ _ _ hS0' fun b hb u hu => hk₁ _ _ (by rw [← hs₃]; exact push_keeps _ _ hu)
  have leC : LabLe ρ₁ (cellLab st₁.next (s₃.heap.objs.size + 1) (cellNames scope.names) ρ₁) := cellLab_le hRd.free
  obtain ⟨os, hos⟩ := CellsR.of (h := h₁) (ρ := cellLab st₁.next (s₃.heap.objs.size + 1) (cellNames scope.names) ρ₁) (vals := []) (cs := cellNames scope.names) (n := st₁.next) (a := s₃.heap.objs.size + 1) fun i y hy => ⟨cellLab_at hRd.free i (List.getElem?_eq_some_iff.mp hy).1, hce i y hy⟩
  obtain ⟨m, hid, hgd, ent⟩ := R.enter (f := f.withRaw ((s₂.heap.objs.size, listOf ([] : List Value).toArray 0) :: (s₁.heap.objs.size, o₀) :: f.outs.raw)) (hf.withRaw _) hRd
  obtain ⟨hRc, back⟩ := ent s₃.heap.objs.size h₁ s₃.toks _ (clC f scope s₃.heap.objs.size) loc₀ (cellLab st₁.next (s₃.heap.objs.size + 1) (cellNames scope.names) ρ₁) ⟨cellTab st₁.next (cellNames scope.names) [] st₁.objs, st₁.next + (cellNames scope.names).length⟩ (cellObjs (s₃.heap.objs.size + 1) os [])
    (Nat.le_refl _) (Nat.le_refl _) hns₁ hk₁ leC cellLab_im (cellLab_free hRd.free) (fun rest l t => by rw [← cellObjs_app]; exact hos.tab t)
    ⟨fun p hp => (hos.mem hp).elim (fun h => nomatch h) fun hp => ⟨hp.1, Nat.ne_of_gt (Nat.lt_of_succ_le hp.2), Nat.le_of_lt (Nat.lt_of_succ_le hp.2)⟩, cellObjs_nodup .nil fun _ h => nomatch h⟩ fun y u e => by
      rw [← hl, accL_get G.nd] at e
      cases hj : idxS y (cellNames scope.names) with
      | some i =>
        rw [hj] at e
        exact .ofCell ((G.lookup _ y).trans (by rw [hj])) (.inl ⟨_, (Option.some.inj e).symm, cellLab_at hRd.free i (List.getElem?_eq_some_iff.mp (idxS_get hj)).1⟩)
      | none =>
        rw [hj] at e
        obtain ⟨h1, h2⟩ := freeLoc_get e
        obtain ⟨m', M⟩ := hRd.fr
        obtain ⟨c, hc1, hc2⟩ := G.lookFree (C := s₃.heap.objs.size) h1
        exact .ofCell hc2 (((M.hm y u h2).cell hc1).mono leC)
  have gok := FD.comp_okC (C := s₃.heap.objs.size) (m := m) (raw := []) hf G hkind hgd
  have loop : codeAny (model prog w) f.A (.compLoop (.ListComp elt [⟨.Name x px, iter, [], 0⟩] scope pos) 0 (.ref s₁.heap.objs.size) (.ref s₂.heap.objs.size) (compEnvC scope (clC f scope s₃.heap.objs.size) s₃.heap.objs.size f.env))
      (compPost (model prog w) f.A E use Q (.ref s₂.heap.objs.size) s₃.heap.objs.size) { s₃ with heap := h₁, toks := s₃.toks } := by
    refine comp_loop (g := f.comp hid s₃.heap.objs.size m (clC f scope s₃.heap.objs.size) [] scope) (iterV_len hv hit) (hb _ gok (relabel_names hf.kind)) hw (fun raw => turn _ (gok.withRaw raw) (relabel_names hf.kind) rfl) (W.mono leC) hS hJ (R.rawSwap (outs := ⟨f.outs.fs ++ [(f.L, m)], clC f scope s₃.heap.objs.size, []⟩) hRc) fun acc st' ρ' xs c s' hJ' le hxs hl' hR' => ?_
    obtain ⟨m₂, F₂, -⟩ := hR'.fr
    obtain ⟨oC, es, ep, hoC, hd⟩ := F₂.ns
    have hb' := back _ _ _ _ _ (hideAll s'.heap [s₃.heap.objs.size]) (leC.trans le) hR' fun b z hb e => hideAll_get _ e fun hm => hb (List.mem_singleton.mp hm)
    have hC := hb'.rawIn (h' := s'.heap) (tk := s'.toks) (a := s₃.heap.objs.size) (o := oC) (fun b o e => of_hideAll _ e) (hideAll_none _ (.head _)) hoC (Nat.le_refl _)
    obtain ⟨v', st₂, ρ₂, X⟩ := (done _ _ hJ').go (outs := f.outs) hxs hl' (R.rawSwap (outs := f.outs) hC)
    exact q v' st₂ ρ₂ _ _ oC m₂ _ X.k (le₁.trans (leC.trans (le.trans X.le))) ⟨es, ep, hd⟩ X.R X.v
  exact codeAny_compStart_list loop (W.walks.self 0 _ _ _ hS loop)
theorem CT.te {elt : Expr} {gens : List Comprehension} {scope : Scope} {pos : Pos} {k : V → St → Prop} (h : CT prog w os₀ f (.ListComp elt gens scope pos) loc st k) : TE prog w os₀ f (.ListComp elt gens scope pos) loc st k := by
  intro ρ s Q Ex hR q
  rw [eval_ListComp]
  refine h none ρ s Q Ex hR fun v st' ρ' val C oC m s' hk le hC hR' hv => ?_
  obtain ⟨es, ep, hd⟩ := hC
  exact ⟨m, ⟨oC, es, ep, R.rawAt (outs := f.outs) hR', hd⟩, fun h' hs => q _ _ _ _ _ hk le (R.rawTurn (outs := f.outs) hR' (tk := s'.toks) (fun b x hb e => hs.extBut b x hb e) (Nat.le_refl _)).2 hv⟩
theorem swaps_ok (hf : f.Ok K mg mb) {elt : Expr} {gens : List Comprehension} {scope : Scope} {pos py : Pos} {y : Str} {l : Nat} (hy : getA y f.cs.names = some .local) (hp : (py.line == pos.line) = true) (hn : (scope.names.any fun (n, k) => n == y && (k == .local || k == .cell)) = false) :
    swapsWith (.ListComp elt gens scope pos) (some (.Name y py)) l f.env = pure true := by
  show (pure (f.env.blockKind == .function && f.env.kindOf y == some .local && py.line == pos.line && !(scope.names.any fun (n, k) => n == y && (k == .local || k == .cell))) : Sem Bool) = _
  rw [show f.env.blockKind = .function by unfold Env.blockKind; rw [show f.env.scope.kind = .function from hf.kind]; rfl, show f.env.kindOf y = some .local from (lookup_getA _ _).trans hy, hp, hn]
  rfl
/-- name = [..] -/
theorem CT.asg (hf : f.Ok K mg mb) {elt : Expr} {gens : List Comprehension} {scope : Scope} {pos py spos : Pos} {y : Str} {k : Fl → Loc → St → Prop} (hy : getA y f.cs.names = some .local) (hp : (py.line == pos.line) = true) (hn : (scope.names.any fun (n, k) => n == y && (k == .local || k == .cell)) = false)
    (h : CT prog w os₀ f (.ListComp elt gens scope pos) loc st (fun v st' => k .next (putA y v loc) st')) : TS prog w os₀ f (.Assign [.Name y py] (.ListComp elt gens scope pos) spos) loc st k := by
  intro ρ s Q Ex hR q
  have hy' : f.cs.names.lookup y = some .local := (lookup_getA _ _).trans hy
  rw [exec_Assign_Name_used _ _ _ _ (swaps_ok hf hy hp hn)]
  refine wpAny_bind (wpAny_standAt (wpAny_bind ?_))
  show wpAny _ _ (do let _ ← compOf f.env (some (assign (.Name y py) f.env)) (.ListComp elt gens scope pos)) _ _ s
  refine wpAny_bind (wpAny_mono (h (some (assign (.Name y py) f.env)) ρ s (fun _ s' => Q .next s') Ex hR fun v st' ρ' val C oC m s' hk le hC hR' hv => ?_) (fun _ s' hq => wpAny_pure (wpAny_pure hq)) fun _ _ e => e)
  obtain ⟨es, ep, hd⟩ := hC
  refine wpAny_assign_Name (R.store hR' (env := f.env) hv rfl hf.kind hy' (hf.loc _ hy') fun s₃ hR₃ => ?_)
  exact ⟨m, ⟨oC, es, ep, R.rawAt (outs := f.outs) hR₃, hd⟩, fun h' hs => q _ _ _ _ _ _ hk le (R.rawTurn (outs := f.outs) hR₃ (tk := s₃.toks) (fun b x hb e => hs.extBut b x hb e) (Nat.le_refl _)).2 .next⟩
end
end Mine
end
section
open PySem PySem.W PyProof.Rows PySem.Calls
set_option Elab.async false
set_option maxRecDepth 100000
namespace Mine
/-! builtins by their contracts -/
theorem VRs.one1 {ρ : Lab} {v : V} {vals : List Value} (h : VRs ρ [v] vals) : ∃ x, vals = [x] ∧ VR ρ v x := h.one rfl
section
variable {w : World} {os₀ : Glo} {h₀ : Heap} {L : Addr} {outs : Fx} {loc : Loc} {st : St} {ρ : Lab} {s : Shared}
theorem R.held (r : R w os₀ h₀ L outs loc st ρ s) : ∃ m ns, Fr h₀ L s.heap m ∧ News h₀ L s.heap ns ∧ ∀ h' tk, s.toks ≤ tk → Fr h₀ L h' m → News h₀ L h' ns → R w os₀ h₀ L outs loc st ρ { s with heap := h', toks := tk } := by
  obtain ⟨m, F, hm⟩ := r.fr
  obtain ⟨ns, N, T, nd⟩ := r.led
  exact ⟨m, ns, F, N, fun h' tk htk F' N' => ⟨⟨m, F', hm⟩, ⟨ns, N', T, nd⟩, r.free, r.os, r.gens, Nat.lt_of_lt_of_le r.tok htk⟩⟩
end
noncomputable def sortSpec (vs : List V) (st : St) (k : V → St → Prop) : Prop := ∃ v ns out, vs = [v] ∧ numsOf st v = some ns ∧ ns.length < 64 ∧ out.Perm ns ∧ out.Pairwise (· ≤ ·) ∧ k (.tri out) st
noncomputable def sumSpec (vs : List V) (st : St) (k : V → St → Prop) : Prop := ∃ v ns, vs = [v] ∧ numsOf st v = some ns ∧ k (.int ns.sum) st
noncomputable def lenSpec (vs : List V) (st : St) (k : V → St → Prop) : Prop := ∃ v us, vs = [v] ∧ showV st v = some us ∧ k (.int us.length) st
noncomputable def rngSpec (vs : List V) (st : St) (k : V → St → Prop) : Prop := ∃ n : Nat, vs = [.int n] ∧ k (.rng n) st
section
variable {prog : Program} {w : World} {K : Frag} {X : Nat}
theorem sort_spec : BiSpec prog w K X (.builtin "sorted") sortSpec := by
  intro mg mb os₀ f hf hd hu vs st k ⟨v, ns, out, e, hn, hz, hp, hs, hk⟩ loc ρ s vals Q E hR hv q
  subst e
  obtain ⟨x₁, e₁, a⟩ := hv.one1
  subst e₁
  obtain ⟨l, xs, n, Y⟩ := hR.shown a (numsOf_show hn)
  rw [Y.e]
  have ha := Y.at_
  have hvs := Y.vr
  have hI := hvs.to_ints
  have hz2 := Y.sz
  refine sorted_ints (isList_of ha) hI (hI.length ▸ hz) fun out' ns' h1 h2 h3 => ?_
  have : ns' = out := List.Perm.eq_of_pairwise (fun _ _ _ _ a b => Int.le_antisymm a b) h3 hs (h2.trans hp.symm)
  subst this
  obtain ⟨e, he⟩ := sortedAll_at s.heap xs out'
  obtain ⟨ρ', le, hv', hR'⟩ := hR.newList (tk := s.toks) (h' := sortedAll s.heap xs out') (a := s.heap.objs.size + 1) (xs := out'.toList) (n := e) (v := .tri ns') (vs := ns'.map .int) (fun b o hb => sortedAll_old hb) (size_none (Nat.le_succ _)) he (.ints h1) rfl (closed_ints _) (by rw [List.length_map] at hz2 ⊢; rw [h2.length_eq]; exact hz2) (Nat.le_refl _)
  exact q _ _ ρ' _ _ hk le hR' hv'
theorem sum_spec : BiSpec prog w K X (.builtin "sum") sumSpec := by
  intro mg mb os₀ f hf hd hu vs st k ⟨v, ns, e, hn, hk⟩ loc ρ s vals Q E hR hv q
  subst e
  obtain ⟨x₁, e₁, a⟩ := hv.one1
  subst e₁
  obtain ⟨l, xs, n, Y⟩ := hR.shown a (numsOf_show hn)
  rw [Y.e]
  have ha := Y.at_
  have hvs := Y.vr
  obtain ⟨m, news, F, N, back⟩ := hR.held
  refine wpAny_with_toks (Nat.le_refl s.toks) (LSm.sum_ints F N hf.handled (isList_of ha) hvs.to_ints fun h' tk t F' N' htk => ?_)
  exact q _ _ ρ _ _ hk (.refl _) (back _ _ htk F' N') (.int _ _)
theorem len_spec : BiSpec prog w K X (.builtin "len") lenSpec := by
  intro mg mb os₀ f hf hd hu vs st k ⟨v, us, e, hn, hk⟩ loc ρ s vals Q E hR hv q
  subst e
  obtain ⟨x₁, e₁, a⟩ := hv.one1
  subst e₁
  obtain ⟨l, xs, n, Y⟩ := hR.shown a hn
  rw [Y.e]
  have ha := Y.at_
  have hvs := Y.vr
  have hl := hvs.length
  have hz2 := Y.sz
  refine len_list (isList_of ha) (by rw [List.size_toArray, hl]; rw [sizeLine_eq] at hz2; omega) ?_
  rw [List.size_toArray, hl]
  exact q _ _ ρ _ _ hk (.refl _) (hR.toks _ (Nat.le_add_right _ 2)) (.int _ _)
theorem rng_spec : BiSpec prog w K X (.type "range") rngSpec := by
  intro mg mb os₀ f hf hd hu vs st k ⟨n, e, hk⟩ loc ρ s vals Q E hR hv q
  subst e
  obtain ⟨x₁, e₁, a⟩ := hv.one1
  subst e₁
  obtain ⟨t₁, e₁⟩ := a.inv
  rw [e₁]
  refine call_range_1 ?_
  obtain ⟨le, hR'⟩ := hR.newIm (tk := s.toks + 1 + 1) (a := s.heap.objs.size) (o := rngObj n s.toks _ (s.toks + 1)) push_keeps (size_none (Nat.le_refl _)) (Heap.get?_push_size _ rfl) (Nat.le_add_right _ 2)
  exact q _ _ _ _ _ hk le hR' (.rng (.head _))
end
end Mine
end
section
open PySem PySem.W PyProof.Rows PySem.Calls
set_option Elab.async false
set_option maxRecDepth 100000
set_option genSizeOf false
set_option genInjectivity false
namespace Mine
/-! a def that sees one list of ints of the caller's: run in a table of its own -/
noncomputable def hideV (ρ : Lab) : V → V
  | .ref k => (match ρ.of k with | some a => .raw a | none => .none)
  | v => v
noncomputable def hideLoc (ρ : Lab) (loc : Loc) : Loc := loc.map fun p => (p.1, hideV ρ p.2)
theorem getA_map {α β : Type} (g : α → β) (x : Str) (l : List (Str × α)) : getA x (l.map fun p => (p.1, g p.2)) = (getA x l).map g := by
  induction l with
  | nil => rfl
  | cons p r ih =>
    show (match sEq x p.1 with | true => some (g p.2) | false => getA x (r.map fun p => (p.1, g p.2))) = Option.map g (match sEq x p.1 with | true => some p.2 | false => getA x r)
    cases sEq x p.1 with
    | true => rfl
    | false => exact ih
/-- an object of the table, taken out; the rest told apart -/
structure PickAt (P : Params) (ρ : Lab) (R : List (Addr × Obj) → Prop) (j : Nat) (o : O) (os : List (Nat × O)) (ns : List (Addr × Obj)) (a : Addr) (l pre post lr : List (Addr × Obj)) : Prop where
  of : ρ.of j = some a
  at_ : OAt P ρ o a l
  e : ns = pre ++ (l ++ (post ++ lr))
  r : R lr
  put : ∀ (R' : List (Addr × Obj) → Prop) lr' o' l', R' lr' → OAt P ρ o' a l' → Tab P ρ R' (putO j o' os) (pre ++ (l' ++ (post ++ lr')))
  del : ∀ (R' : List (Addr × Obj) → Prop) lr', R' lr' → Tab P ρ R' (delO j os) (pre ++ (post ++ lr'))
/-- a table's end, put anew -/
theorem Tab.reEnd {P : Params} {ρ : Lab} {os : List (Nat × O)} {ns : List (Addr × Obj)} (t : Tab P ρ (fun l => l = []) os ns) (R' : List (Addr × Obj) → Prop) {l : List (Addr × Obj)} (h : R' l) : Tab P ρ R' os (ns ++ l) := by
  obtain ⟨p, l₀, X⟩ := t.parts
  rw [X.e, show l₀ = [] from X.r, List.append_nil]
  exact X.put R' l h
theorem Tab.pick {P : Params} {ρ : Lab} {R : List (Addr × Obj) → Prop} {j : Nat} {o : O} {os : List (Nat × O)} {ns : List (Addr × Obj)} (t : Tab P ρ R os ns) (e : getO j os = some o) :
    ∃ a l pre post lr, PickAt P ρ R j o os ns a l pre post lr := by
  obtain ⟨preT, lr, X⟩ := t.parts
  have t0 := X.put (fun l => l = []) [] rfl
  rw [List.append_nil] at t0
  obtain ⟨a, l, pre, post, Y⟩ := t0.at_ e
  refine ⟨a, l, pre, post, lr, Y.of, Y.at_, by rw [X.e, Y.e, List.append_assoc, List.append_assoc], X.r, fun R' lr' o' l' hr' ho' => ?_, fun R' lr' hr' => ?_⟩
  · have := (Y.put o' l' ho').reEnd R' hr'
    rw [List.append_assoc, List.append_assoc] at this
    exact this
  · have := Y.del.reEnd R' hr'
    rw [List.append_assoc] at this
    exact this
theorem notClosed {u : V} (h : closedV u = false) : ∃ k, u = .ref k := by
  cases u with
  | ref k => exact ⟨k, rfl⟩
  | _ => exact absurd h.symm Bool.false_ne_true
theorem hideV_closed {ρ : Lab} {u : V} (h : closedV u = true) : hideV ρ u = u := by
  cases u with
  | ref k => exact absurd h Bool.false_ne_true
  | _ => rfl
theorem hideV_ref {ρ : Lab} {k : Nat} {a : Addr} (h : ρ.of k = some a) : hideV ρ (.ref k) = .raw a := by
  show (match ρ.of k with | some a => V.raw a | none => .none) = _
  rw [h]
theorem hide_loc {cl : List (Str × Addr)} {m : Str → Option Value} {ρ ρ₀ : Lab} {x : Str} {u : V} (hi : ∀ p ∈ ρ.im, p ∈ ρ₀.im) (h : LocR cl m ρ x u) : LocR cl m ρ₀ x (hideV ρ u) := by
  refine h.map (fun c g => .inr ?_) fun val e g => ⟨val, e, ?_⟩
  · rcases g with ⟨k, e, hk⟩ | e
    · rw [e]; exact hideV_ref hk
    · rw [e]; rfl
  · cases hc : closedV u with
    | true => rw [hideV_closed hc]; exact g.closed hi hc
    | false =>
      obtain ⟨k, e⟩ := notClosed hc
      subst e
      obtain ⟨a, e, hk⟩ := g.inv
      rw [hideV_ref hk, e]
      exact .raw _
theorem unhide_loc {cl : List (Str × Addr)} {m m' : Str → Option Value} {ρ ρ' : Lab} {x : Str} {v : V} (h : LocR cl m ρ x v) (h' : LocR cl m' ρ' x (hideV ρ v)) : LocR cl m' ⟨ρ.of, ρ'.im⟩ x v := by
  cases e : cl.lookup x with
  | some c => exact .ofCell e (h.cell e)
  | none =>
    obtain ⟨val, h1, h2⟩ := h.get e
    obtain ⟨val', h3, h4⟩ := h'.get e
    refine .of e ⟨val', h3, ?_⟩
    cases hc : closedV v with
    | true => rw [hideV_closed hc] at h4; exact VR.closed (ρ := ρ') (ρ' := ⟨ρ.of, ρ'.im⟩) (fun _ h => h) h4 hc
    | false =>
      obtain ⟨k, ek⟩ := notClosed hc
      subst ek
      obtain ⟨c, ec, hk⟩ := h2.inv
      rw [hideV_ref hk] at h4
      rw [show val' = .ref c from h4.inv]
      exact .ref hk
section
variable {w : World} {os₀ : Glo} {h₀ : Heap} {L : Addr} {outs : Fx} {loc : Loc} {st : St} {ρ : Lab} {s : Shared}
/-- a list of the table is frozen -/
theorem R.freeze (r : R w os₀ h₀ L outs loc st ρ s) {j : Nat} {vs : List V} {v : V} {val : Value} (ho : getO j st.objs = some (.list vs)) (hi : itemsV v = some vs) (hc : vs.all closedV = true) (hv : VR ρ (.ref j) val) :
    ∃ ρ', LabLe ρ ρ' ∧ VR ρ' v val ∧ R w os₀ h₀ L outs [] ⟨delO j st.objs, st.next⟩ ρ' s := by
  obtain ⟨m, F, hm⟩ := r.fr
  obtain ⟨nw, N, T, nd⟩ := r.led
  obtain ⟨a, l, pre, post, lr, Z⟩ := T.pick ho
  obtain ⟨c, fs, Y⟩ := Z.r
  obtain ⟨n, xs, el, h1, h2⟩ := Z.at_.inv
  obtain ⟨b, eb, hb⟩ := hv.inv
  rw [Z.of] at hb
  rw [eb, ← Option.some.inj hb]
  have e := Z.e
  rw [Y.e, el] at e
  subst e
  have le : LabLe ρ ⟨ρ.of, (a, listOf xs.toArray n) :: ρ.im⟩ := ⟨fun _ _ h => h, fun _ h => .tail _ h⟩
  have e : (pre ++ (post ++ (outs.raw ++ ((a, listOf xs.toArray n) :: ρ.im ++ (c ++ fs))))).Perm (pre ++ ([(a, listOf xs.toArray n)] ++ (post ++ (outs.raw ++ (ρ.im ++ (c ++ fs)))))) := by
    refine List.Perm.append_left _ ?_
    rw [← List.append_assoc post, ← List.append_assoc post]
    exact List.perm_middle
  have X := News.perm e N nd
  exact ⟨_, le, .of_items (.head _) (h1.mono le) hi hc h2, ⟨m, F, fun x v e => no' e⟩, ⟨_, X.1, (Z.del (RestIs os₀ outs ((a, listOf xs.toArray n) :: ρ.im)) _ ⟨c, fs, rfl, Y.ct, Y.fr⟩).mono le, X.2⟩, r.free, r.os, r.gens, r.tok⟩
end
section
variable {prog : Program} {w : World} {K : Frag} {X : Nat}
theorem zip_nil_r (xs : List Str) : xs.zip ([] : List Value) = [] := List.zip_nil_right
end
end Mine
end
section
open PySem PySem.W PyProof.Rows PySem.Calls
set_option Elab.async false
set_option maxRecDepth 100000
namespace Mine
section
variable {prog : Program} {w : World} {K : Frag} {mg mb : Str → Option Value} {os₀ : Glo} {f : FD} {loc : Loc} {st : St}
/-- a for loop over a symbolic list -/
theorem TS.forJ (hf : f.Ok K mg mb) {x : Str} {px pos : Pos} {it : Expr} {body : List Stmt} (hx : getA x f.cs.names = some .local) (hset : noSet it = true) (J : List V → Loc → St → Prop) {k : Fl → Loc → St → Prop}
    (hi : TE prog w os₀ f it loc st (fun v st' => ∃ items, iterV v = some items ∧ J items loc st'))
    (turn : ∀ raw v vs loc st, J (v :: vs) loc st → TB prog w os₀ (f.withRaw raw) body (putA x v loc) st (fun fl loc' st' => match fl with
      | .next => J vs loc' st'
      | .cont => J vs loc' st'
      | .brk => k .next loc' st'
      | .ret u => k (.ret u) loc' st'))
    (done : ∀ loc st, J [] loc st → k .next loc st) : TS prog w os₀ f (.For (.Name x px) it body [] pos) loc st k := by
  intro ρ s Q Ex hR q
  refine wpAny_For (hi ρ s _ _ hR fun v st₁ ρ₁ val s₁ ⟨items, e, hJ⟩ le₁ hR₁ hv => ?_) (folded_plain hset)
  exact for_core hf (by rw [lookup_getA]; exact hx) J turn done hJ hR₁ hv e fun fl loc' st' ρ' fv s' hk le hR' hfl => q _ _ _ _ _ _ hk (le₁.trans le) hR' hfl
end
section
variable {prog : Program} {w : World} {K : Frag} {X : Nat}
/-- the contract of a def that makes a list out of closed arguments; the list is frozen -/
theorem spec_isoF (hX : X ≤ 900) {i : FnI} (I : FnOk K i) (hkw : i.kws = []) (hcell : i.cell = []) {sp : List V → St → (V → St → Prop) → Prop} {out : List V → V → Prop}
    (hsp : ∀ vs st k, sp vs st k → vs.length = i.n ∧ vs.all closedV = true ∧ ∃ v, closedV v = true ∧ out vs v ∧ k v st)
    (hcl : i.bind.all (fun b => match b.2 with | .const v _ => closedV v | _ => true) = true)
    (h : ∀ (mg mb : Str → Option Value) (os₀ : Glo) (f : FD), f.Ok K mg mb → f.cs = i.sc → f.A.depth < X + 1 → f.A.units < 10 * X + 3 → ∀ vs v, out vs v →
      TB prog w os₀ f i.body (i.bind.map fun b => (b.1, b.2.v vs [])) ⟨[], 0⟩ (fun fl _ st' => fl = .ret v ∨ ∃ j us, fl = .ret (.ref j) ∧ getO j st'.objs = some (.list us) ∧ itemsV v = some us ∧ us.all closedV = true)) :
    SpecOk prog w K X i.f sp := by
  refine ⟨.of I.keep, ?_⟩
  intro mg mb os₀ f hf A' hfr hh hd hu vs st k hk loc ρ s vals Rr hR hv q
  obtain ⟨h1, h2, v, h4, h5, h6⟩ := hsp _ _ _ hk
  have e0 : i.kws.zip ([] : List Value) = [] := by simp
  rw [← e0]
  refine callR I f hf hfr hh (by unfold recursionLimit; omega) hR hv .nil h1 (by rw [hkw]; rfl) ?_
  intro f' f'ok hcs hdep hun _ ρ₁ s₁ le₁ hR₁ back
  have e1 : fnLoc i st.next vs [] = i.bind.map fun b => (b.1, b.2.v vs []) := by unfold fnLoc; rw [hcell]
  have e2 : fnSt i st vs [] = st := by unfold fnSt; rw [hcell]
  rw [e1, e2] at hR₁
  have hc : ((i.bind.map fun b => (b.1, b.2.v vs [])).map (·.2)).all closedV = true := by
    have getc : ∀ (l : List V) (n : Nat), l.all closedV = true → closedV (getN .none n l) = true := by
      intro l
      induction l with
      | nil => intro n _; cases n <;> rfl
      | cons a r ih =>
        intro n hl
        simp only [List.all_cons, Bool.and_eq_true] at hl
        cases n with
        | zero => exact hl.1
        | succ n => exact ih n hl.2
    rw [List.all_eq_true]
    intro v hv'
    obtain ⟨p, hp, rfl⟩ := List.mem_map.mp hv'
    obtain ⟨b, hb, rfl⟩ := List.mem_map.mp hp
    have hb' := List.all_eq_true.mp hcl b hb
    show closedV (b.2.v vs []) = true
    cases hbs : b.2 with
    | arg n => exact getc _ _ h2
    | kw n => cases n <;> rfl
    | const v val => rw [hbs] at hb'; exact hb'
  obtain ⟨raw, hRi, hback⟩ := hR₁.iso hc
  refine h mg mb os₀ (f'.withRaw (raw ++ f'.outs.raw)) (f'ok.withRaw _) hcs (by show f'.A.depth < _; omega) (by show f'.A.units < _; omega) vs v h5 _ s₁ _ _ hRi ?_
  rintro fl loc' st₂ ρ' fv s' hk' le hR' hfl
  have fin : ∀ (ρ'' : Lab) (val : Value), LabLe ⟨fun _ => none, ρ₁.im⟩ ρ'' → (∃ l₂ st₃, R w os₀ f'.h₀ f'.L (f'.withRaw (raw ++ f'.outs.raw)).outs l₂ st₃ ρ'' s') → VR ρ'' v val → Rr (.ok (.ret val)) s' := fun ρ'' val le ⟨l₂, st₃, hR'⟩ hval => by
    obtain ⟨le₂, hR₂⟩ := hback _ _ _ _ le hR'
    have hval' : VR ⟨ρ₁.of, ρ''.im⟩ v _ := VR.closed (ρ := ρ'') (ρ' := ⟨ρ₁.of, ρ''.im⟩) (fun _ h => h) hval h4
    exact q _ _ _ _ _ h6 (le₁.trans le₂) (back _ _ _ _ (le₁.trans le₂) hR₂) hval'
  rcases hk' with rfl | ⟨j, us, rfl, ho, hi, hus⟩
  · cases hfl with | ret hval => ?_
    exact fin ρ' _ le ⟨_, _, hR'⟩ hval
  · cases hfl with | ret hval => ?_
    obtain ⟨ρ₂, le₂, hv₂, hR₂⟩ := hR'.freeze ho hi hus hval
    exact fin ρ₂ _ (le.trans le₂) ⟨_, _, hR₂⟩ hv₂
end
end Mine
end
section
open PySem PySem.W
set_option Elab.async false
set_option maxRecDepth 100000
namespace Mine
/-! parts of a body, by their places -/
noncomputable def dP : Pos := ⟨0, 0, 0, 0⟩
noncomputable def dE : Expr := .Name "" dP
noncomputable def dS : Stmt := .Pass dP
noncomputable def kidE : Expr → List Expr
  | .BinOp l _ r _ => [l, r]
  | .UnaryOp _ x _ => [x]
  | .ListComp e gs _ _ => e :: gs.flatMap fun g => g.target :: g.iter :: g.ifs
  | .GeneratorExp e gs _ _ => e :: gs.flatMap fun g => g.target :: g.iter :: g.ifs
  | .Compare l _ xs _ => l :: xs
  | .Call f as _ _ => f :: as
  | .Attribute o _ _ => [o]
  | .Subscript o i _ => [o, i]
  | .List xs _ => xs
  | _ => []
noncomputable def kidS : Stmt → List Expr
  | .Return o _ => o.toList
  | .Assign ts e _ => e :: ts
  | .AugAssign t _ e _ => [t, e]
  | .For t it _ _ _ => [t, it]
  | .While t _ _ _ => [t]
  | .If t _ _ _ => [t]
  | .Raise o _ _ => o.toList
  | .Expr e _ => [e]
  | _ => []
noncomputable def subS : Stmt → List Stmt
  | .For _ _ b _ _ => b
  | .While _ b _ _ => b
  | .If _ b _ _ => b
  | .Try b _ _ _ _ => b
  | _ => []
noncomputable def kC : Expr → Nat
  | .Constant _ k _ => k
  | _ => 0
noncomputable def scE : Expr → Scope
  | .ListComp _ _ s _ => s
  | .GeneratorExp _ _ s _ => s
  | _ => default
noncomputable def atE : List Nat → Expr → Expr
  | [], e => e
  | i :: r, e => atE r (getN dE i (kidE e))
/-- the i-th statement; its first expression's part -/
noncomputable abbrev sI (i : Nat) (b : List Stmt) : Stmt := getN dS i b
noncomputable abbrev sE (j : Nat) (p : List Nat) (s : Stmt) : Expr := atE p (getN dE j (kidS s))
end Mine
end
section
open PySem PySem.W
set_option Elab.async false
set_option maxRecDepth 100000
namespace Mine
/-! the objects that the walks look up -/
noncomputable abbrev PW : Program := PySem.Challenge.pw_mr0356_02
noncomputable def sV (s : String) (t : Nat) : Value := .str (Str.ofString s) t
noncomputable def iV (i : Int) : Value := .int i 0
noncomputable def kS (P : Params) (s : String) (t : Nat) (v : Value) : DictEntry := ⟨PyData.keyHash P (Str.ofString s), .str (Str.ofString s) t, v⟩
noncomputable def stO (p : Program) (i : Nat) : Stmt := p.main.body.getD i (.Pass default)
noncomputable def inC : Stmt → Nat → Stmt
  | .ClassDef _ _ _ b _ _ _ _ _ _ _, j => b.getD j (.Pass default)
  | s, _ => s
noncomputable def fnO (st : Stmt) (m : String) (dV md cd : Value) : Obj := match st with
  | .FunctionDef n a b _ _ _ sc _ _ _ => ⟨.type "function", none, .func ⟨n, Str.ofString m, a, .stmts b, sc, 3, [], dV, .none, .none, md, none, cd, .none, 0⟩, #[]⟩
  | _ => default
noncomputable def cdO (n m : String) (t : Nat) (l a b c d : Int) (r s : Nat) (x y z : Value) (u : Int) (v : Nat) : Obj :=
  ⟨.type "code", none, .fields #[sV n t, sV m (t + 1), sV "/claim/cut.py" (t + 2), iV l, iV a, iV b, iV c, iV d, .ref r, .bool true, iV 318, .ref s, .none, x, y, z, iV u, iV l, sV "/claim/cut.py" v], #[]⟩
noncomputable def ob734 (P : Params) : Obj := fnO (inC (stO PW 27) 6) "shlex.read_token" .none (sV "cpy313.shlex" 1132) (.ref 733)
noncomputable def ob577 (P : Params) : Obj := fnO (inC (stO PW 17) 25) "StringIO.read" (.ref 570) (sV "io" 416) (.ref 576)
noncomputable def ob697 (P : Params) : Obj := fnO (inC (stO PW 27) 1) "shlex.punctuation_chars" .none (sV "cpy313.shlex" 1132) (.ref 696)
noncomputable def ob727 (P : Params) : Obj := fnO (inC (stO PW 27) 5) "shlex.get_token" .none (sV "cpy313.shlex" 1132) (.ref 726)
noncomputable def ob763 (P : Params) : Obj := fnO (inC (stO PW 27) 10) "shlex.__next__" .none (sV "cpy313.shlex" 1132) (.ref 762)
noncomputable def ob756 (P : Params) : Obj := fnO (inC (stO PW 27) 9) "shlex.__iter__" .none (sV "cpy313.shlex" 1132) (.ref 755)
noncomputable def ob778 (P : Params) : Obj := fnO (stO PW 28) "split" (.ref 771) (sV "cpy313.shlex" 1132) (.ref 777)
noncomputable def ob785 (P : Params) : Obj := fnO (stO PW 29) "join" .none (sV "cpy313.shlex" 1132) (.ref 784)
noncomputable def ob793 (P : Params) : Obj := fnO (stO PW 32) "quote" .none (sV "cpy313.shlex" 1132) (.ref 792)
noncomputable def ob415 (P : Params) : Obj := fnO (inC (stO PW 17) 3) "StringIO.__check" .none (sV "io" 416) (.ref 414)
noncomputable def ob97 (P : Params) : Obj := fnO (stO PW 11) "_index" .none (sV "io" 416) (.ref 96)
noncomputable def ob408 (P : Params) : Obj := fnO (inC (stO PW 17) 2) "StringIO.__translated" .none (sV "io" 416) (.ref 407)
noncomputable def ob401 (P : Params) : Obj := fnO (inC (stO PW 17) 1) "StringIO.__init__" (.ref 394) (sV "io" 416) (.ref 400)
noncomputable def ob690 (P : Params) : Obj := fnO (inC (stO PW 27) 0) "shlex.__init__" (.ref 683) (sV "cpy313.shlex" 1132) (.ref 689)
noncomputable def ob124 (P : Params) : Obj := fnO (inC (stO PW 13) 1) "IOBase.__new__" .none (sV "io" 416) (.ref 123)
noncomputable def ob429 (P : Params) : Obj := fnO (inC (stO PW 17) 5) "StringIO.__line" .none (sV "io" 416) (.ref 428)
noncomputable def ob585 (P : Params) : Obj := fnO (inC (stO PW 17) 26) "StringIO.readline" (.ref 578) (sV "io" 416) (.ref 584)
noncomputable def ob64 (P : Params) : Obj := fnO (stO PW 5) "median" .none (sV "cpy313.statistics" 331) (.ref 63)
noncomputable def ob71 (P : Params) : Obj := fnO (stO PW 6) "median_low" .none (sV "cpy313.statistics" 331) (.ref 70)
noncomputable def ob78 (P : Params) : Obj := fnO (stO PW 7) "median_high" .none (sV "cpy313.statistics" 331) (.ref 77)
noncomputable def ob800 (P : Params) : Obj := fnO (stO PW 34) "_law_word" .none (sV "law_mr0356_02" 1300) (.ref 799)
noncomputable def ob805 (P : Params) : Obj := fnO (stO PW 35) "_law_sent" .none (sV "law_mr0356_02" 1300) (.ref 804)
noncomputable def ob810 (P : Params) : Obj := fnO (stO PW 36) "_law_voted" .none (sV "law_mr0356_02" 1300) (.ref 809)
noncomputable def ob815 (P : Params) : Obj := fnO (stO PW 37) "_law_lines" .none (sV "law_mr0356_02" 1300) (.ref 814)
noncomputable def ob820 (P : Params) : Obj := fnO (stO PW 38) "law" .none (sV "law_mr0356_02" 1300) (.ref 819)
noncomputable def ob3 (P : Params) : Obj := ⟨(.type "dict"), none, .dict #[kS P "__name__" 165 (sV "law_mr0356_02" 1300), kS P "__doc__" 166 .none, kS P "__package__" 167 .none, kS P "__loader__" 168 (.builtin "__main__.__loader__#opaque"), kS P "__spec__" 169 .none, kS P "__annotations__" 170 (.ref 6), kS P "__builtins__" 171 (.ref 4), kS P "__file__" 173 (sV "/claim/cut.py" 172), kS P "__cached__" 174 .none, kS P "_sre" 275 (.ref 12), kS P "deque" 317 (.type "collections.deque"), kS P "_wall" 330 (.ref 44), kS P "StatisticsError" 350 (.ref 54), kS P "median" 359 (.ref 64), kS P "median_low" 367 (.ref 71), kS P "median_high" 375 (.ref 78), kS P "_twin_re_1" 415 (.ref 83), kS P "_whence" 425 (.ref 90), kS P "_index" 433 (.ref 97), kS P "UnsupportedOperation" 455 (.ref 107), kS P "IOBase" 487 (.ref 127), kS P "BufferedIOBase" 505 (.ref 142), kS P "TextIOBase" 523 (.ref 154), kS P "BytesIO" 785 (.ref 384), kS P "StringIO" 1072 (.ref 631), kS P "_kind" 1083 (.ref 640), kS P "_fspath" 1092 (.ref 647), kS P "_check_arg_types" 1102 (.ref 654), kS P "isabs" 1109 (.ref 661), kS P "join" 1120 (.ref 785), kS P "join_path" 1121 (.ref 668), kS P "dirname" 1131 (.ref 675), kS P "shlex" 1272 (.ref 766), kS P "split" 1282 (.ref 778), kS P "join_shlex" 1290 (.ref 785), kS P "_find_unsafe" 1292 (.ref 786), kS P "quote" 1299 (.ref 793), kS P "_law_word" 1309 (.ref 800), kS P "_law_sent" 1315 (.ref 805), kS P "_law_voted" 1321 (.ref 810), kS P "_law_lines" 1327 (.ref 815), kS P "law" 1333 (.ref 820)] 42, #[]⟩
noncomputable def ob766 (P : Params) : Obj := ⟨(.type "type"), none, .cls { name := "shlex", bases := [(.type "object")], mro := [(.ref 766), (.type "object")], ns := 765, qualname := "shlex", subclasses := [] }, #[none, none, some (sV "shlex" 1134), some (sV "shlex" 1142), some (.builtin "object.__new__"), some (.bool true)]⟩
noncomputable def ob765 (P : Params) : Obj := ⟨(.type "dict"), none, .dict #[kS P "__module__" 1141 (sV "cpy313.shlex" 1132), kS P "__firstlineno__" 1145 (.int 501 1144), kS P "__init__" 1157 (.ref 690), kS P "punctuation_chars" 1165 (.ref 698), kS P "push_token" 1173 (.ref 705), kS P "push_source" 1182 (.ref 713), kS P "pop_source" 1189 (.ref 720), kS P "get_token" 1201 (.ref 727), kS P "read_token" 1212 (.ref 734), kS P "sourcehook" 1220 (.ref 741), kS P "error_leader" 1229 (.ref 749), kS P "__iter__" 1236 (.ref 756), kS P "__next__" 1244 (.ref 763), kS P "__static_attributes__" 1265 (.ref 764), kS P "__dict__" 1267 (.ref 767), kS P "__weakref__" 1269 (.ref 768), kS P "__doc__" 1270 .none] 4, #[]⟩
noncomputable def ob631 (P : Params) : Obj := ⟨(.type "type"), none, .cls { name := "StringIO", bases := [(.ref 154)], mro := [(.ref 631), (.ref 154), (.ref 127), (.type "object")], ns := 630, qualname := "StringIO", subclasses := [] }, #[some (.ref 387), none, some (sV "StringIO" 786), some (sV "StringIO" 794), some .none, some (.bool true)]⟩
noncomputable def ob630 (P : Params) : Obj := ⟨(.type "dict"), none, .dict #[kS P "__module__" 793 (sV "_io" 798), kS P "__firstlineno__" 797 (.int 231 796), kS P "__init__" 810 (.ref 401), kS P "_StringIO__translated" 819 (.ref 408), kS P "_StringIO__check" 826 (.ref 415), kS P "_StringIO__check_dot" 833 (.ref 422), kS P "_StringIO__line" 848 (.ref 429), kS P "closed" 856 (.ref 437), kS P "line_buffering" 864 (.ref 445), kS P "newlines" 872 (.ref 453), kS P "encoding" 880 (.ref 461), kS P "errors" 888 (.ref 469), kS P "close" 895 (.ref 476), kS P "__enter__" 902 (.ref 483), kS P "__exit__" 910 (.ref 490), kS P "readable" 917 (.ref 497), kS P "writable" 924 (.ref 504), kS P "seekable" 931 (.ref 511), kS P "isatty" 938 (.ref 518), kS P "flush" 945 (.ref 525), kS P "fileno" 952 (.ref 532), kS P "detach" 959 (.ref 539), kS P "getvalue" 966 (.ref 546), kS P "tell" 973 (.ref 553), kS P "seek" 983 (.ref 561), kS P "truncate" 991 (.ref 569), kS P "read" 1003 (.ref 577), kS P "readline" 1013 (.ref 585), kS P "readlines" 1023 (.ref 593), kS P "__iter__" 1030 (.ref 600), kS P "__next__" 1038 (.ref 607), kS P "write" 1050 (.ref 614), kS P "writelines" 1058 (.ref 621), kS P "__repr__" 1065 (.ref 628), kS P "__static_attributes__" 1069 (.ref 629), kS P "__doc__" 1070 .none] 2, #[]⟩
noncomputable def ob786 (P : Params) : Obj := ⟨(.type "builtin_function_or_method"), none, .fields #[(.builtin "re.Pattern.search"), (.ref 83)], #[]⟩
noncomputable def ob83 (P : Params) : Obj := ⟨(.type "re.Pattern"), none, .fields #[(sV "[^\\w@%+=:,./-]" 377), (.int 256 414), (iV 0), .none, .none, (.ref 82), (iV 0)], #[]⟩
noncomputable def ob82 (P : Params) : Obj := ⟨(.type "tuple"), none, .seq #[(iV 14), (iV 17), (iV 4), (iV 1), (iV 1), (iV 21), (iV 9), (iV 0), (iV 604043296), (iV 1), (iV 0), (iV 0), (iV 0), (iV 0), (iV 0), (iV 8), (iV 4), (iV 0), (iV 13), (iV 14), (iV 21), (iV 9), (iV 0), (iV 604043296), (iV 1), (iV 0), (iV 0), (iV 0), (iV 0), (iV 0), (iV 8), (iV 4), (iV 0), (iV 1)] 0, #[]⟩
noncomputable def ob698 (P : Params) : Obj := ⟨(.type "property"), none, .fields #[(.ref 697), .none, .none, .none, (sV "punctuation_chars" 1165), (.bool false)], #[]⟩
noncomputable def ob54 (P : Params) : Obj := ⟨(.type "type"), none, .cls { name := "StatisticsError", bases := [(.type "ValueError")], mro := [(.ref 54), (.type "ValueError"), (.type "Exception"), (.type "BaseException"), (.type "object")], ns := 53, qualname := "StatisticsError", subclasses := [] }, #[some (.ref 45), none, some (sV "StatisticsError" 333), some (sV "StatisticsError" 341), some (.builtin "ValueError.__new__"), some (.bool true)]⟩
noncomputable def ob53 (P : Params) : Obj := ⟨(.type "dict"), none, .dict #[kS P "__module__" 340 (sV "cpy313.statistics" 331), kS P "__firstlineno__" 344 (.int 7 343), kS P "__static_attributes__" 345 (.ref 52), kS P "__weakref__" 347 (.ref 55), kS P "__doc__" 348 .none] 3, #[]⟩
noncomputable def ob55 (P : Params) : Obj := ⟨(.type "getset_descriptor"), none, .fields #[(sV "__weakref__" 346), (.ref 54), (.builtin "ExceptionGroup.__weakref__"), .none], #[]⟩
noncomputable def ob2 (P : Params) : Obj := ⟨.none, none, .dict #[kS P "\x69mport.loaded._sre" 183 (.bool true), kS P "class._frozen_\x69mportlib.BuiltinImporter" 185 (.ref 14), kS P "watched.\x69mport" 206 (.ref 18), kS P "class._frozen_\x69mportlib.ModuleSpec" 216 (.ref 22), kS P "sys.modules.booked-epoch" 245 (iV 4), kS P "\x69mport.later-laid._sre" 270 (.bool true), kS P "watched.library" 272 (.ref 27), kS P "watched.library-objects" 0 (sV "\x0c\x1e" 0), kS P "watched.library-deep._sre" 273 (sV "\x04\x00\x00\x0b\x04\x00\x00\x0b\x04\x00\x00\x03\x04\x00\x00\x0b\x08\x04dict\x02" 0), kS P "\x69mport.loaded._collections" 280 (.bool true), kS P "sys.modules.landed._collections" 294 (.bool true), kS P "\x69mport.later-laid._collections" 309 (.bool true), kS P "watched.library-deep._collections" 311 (sV "\x04\x00\x00\x1d\x04\x00\x00\x1d\x04\x00\x00\x03\x04\x00\x00\x1d\x08\x04dict\x02" 0), kS P "type.__subclasses__.OSError.0" 452 (iV 107), kS P "type.__subclasses__.OSError.n" 453 (iV 1)] 15, #[]⟩
noncomputable def ob126 (P : Params) : Obj := ⟨(.type "dict"), none, .dict #[kS P "__module__" 463 (sV "io" 468), kS P "__firstlineno__" 467 (.int 50 466), kS P "__new__" 478 (.ref 128), kS P "__static_attributes__" 479 (.ref 125), kS P "__dict__" 482 (.ref 129), kS P "__weakref__" 484 (.ref 130), kS P "__doc__" 485 .none] 4, #[]⟩
noncomputable def ob127 (P : Params) : Obj := ⟨(.type "type"), none, .cls { name := "IOBase", bases := [(.type "object")], mro := [(.ref 127), (.type "object")], ns := 126, qualname := "IOBase", subclasses := [(.ref 142), (.ref 154)] }, #[none, none, some (sV "IOBase" 456), some (sV "IOBase" 464), some .none, some (.bool true)]⟩
noncomputable def ob128 (P : Params) : Obj := ⟨(.type "staticmethod"), none, .fields #[(.ref 124)], #[]⟩
noncomputable def ob129 (P : Params) : Obj := ⟨(.type "getset_descriptor"), none, .fields #[(sV "__dict__" 481), (.ref 127), (.builtin "function.__dict__"), (.builtin "function.__dict__#set")], #[]⟩
noncomputable def ob130 (P : Params) : Obj := ⟨(.type "getset_descriptor"), none, .fields #[(sV "__weakref__" 483), (.ref 127), (.builtin "ExceptionGroup.__weakref__"), .none], #[]⟩
noncomputable def ob141 (P : Params) : Obj := ⟨(.type "dict"), none, .dict #[kS P "__module__" 495 (sV "io" 500), kS P "__firstlineno__" 499 (.int 57 498), kS P "__static_attributes__" 502 (.ref 140), kS P "__doc__" 503 .none] 2, #[]⟩
noncomputable def ob142 (P : Params) : Obj := ⟨(.type "type"), none, .cls { name := "BufferedIOBase", bases := [(.ref 127)], mro := [(.ref 142), (.ref 127), (.type "object")], ns := 141, qualname := "BufferedIOBase", subclasses := [(.ref 384)] }, #[some (.ref 133), none, some (sV "BufferedIOBase" 488), some (sV "BufferedIOBase" 496), some .none, some (.bool true)]⟩
noncomputable def ob153 (P : Params) : Obj := ⟨(.type "dict"), none, .dict #[kS P "__module__" 513 (sV "io" 518), kS P "__firstlineno__" 517 (.int 59 516), kS P "__static_attributes__" 520 (.ref 152), kS P "__doc__" 521 .none] 2, #[]⟩
noncomputable def ob154 (P : Params) : Obj := ⟨(.type "type"), none, .cls { name := "TextIOBase", bases := [(.ref 127)], mro := [(.ref 154), (.ref 127), (.type "object")], ns := 153, qualname := "TextIOBase", subclasses := [(.ref 631)] }, #[some (.ref 145), none, some (sV "TextIOBase" 506), some (sV "TextIOBase" 514), some .none, some (.bool true)]⟩
noncomputable def ob383 (P : Params) : Obj := ⟨(.type "dict"), none, .dict #[kS P "__module__" 531 (sV "_io" 536), kS P "__firstlineno__" 535 (.int 61 534), kS P "__init__" 545 (.ref 171), kS P "_BytesIO__check" 552 (.ref 178), kS P "_BytesIO__line" 563 (.ref 185), kS P "closed" 571 (.ref 193), kS P "close" 578 (.ref 200), kS P "__enter__" 585 (.ref 207), kS P "__exit__" 593 (.ref 214), kS P "readable" 600 (.ref 221), kS P "writable" 607 (.ref 228), kS P "seekable" 614 (.ref 235), kS P "isatty" 621 (.ref 242), kS P "flush" 628 (.ref 249), kS P "fileno" 635 (.ref 256), kS P "detach" 642 (.ref 263), kS P "getvalue" 649 (.ref 270), kS P "getbuffer" 656 (.ref 277), kS P "tell" 663 (.ref 284), kS P "seek" 673 (.ref 292), kS P "truncate" 681 (.ref 300), kS P "read" 693 (.ref 308), kS P "read1" 703 (.ref 316), kS P "readinto" 713 (.ref 323), kS P "readinto1" 721 (.ref 330), kS P "readline" 731 (.ref 338), kS P "readlines" 739 (.ref 346), kS P "__iter__" 746 (.ref 353), kS P "__next__" 754 (.ref 360), kS P "write" 764 (.ref 367), kS P "writelines" 772 (.ref 374), kS P "__repr__" 779 (.ref 381), kS P "__static_attributes__" 782 (.ref 382), kS P "__doc__" 783 .none] 2, #[]⟩
noncomputable def ob384 (P : Params) : Obj := ⟨(.type "type"), none, .cls { name := "BytesIO", bases := [(.ref 142)], mro := [(.ref 384), (.ref 142), (.ref 127), (.type "object")], ns := 383, qualname := "BytesIO", subclasses := [] }, #[some (.ref 157), none, some (sV "BytesIO" 524), some (sV "BytesIO" 532), some .none, some (.bool true)]⟩
noncomputable def ob767 (P : Params) : Obj := ⟨(.type "getset_descriptor"), none, .fields #[(sV "__dict__" 1266), (.ref 766), (.builtin "function.__dict__"), (.builtin "function.__dict__#set")], #[]⟩
noncomputable def ob768 (P : Params) : Obj := ⟨(.type "getset_descriptor"), none, .fields #[(sV "__weakref__" 1268), (.ref 766), (.builtin "ExceptionGroup.__weakref__"), .none], #[]⟩
noncomputable def ob394 (P : Params) : Obj := ⟨(.type "tuple"), none, .seq #[(sV "" 800), (sV "\n" 801)] 0, #[]⟩
noncomputable def ob570 (P : Params) : Obj := ⟨(.type "tuple"), none, .seq #[(.int (-1) 993)] 0, #[]⟩
noncomputable def ob578 (P : Params) : Obj := ⟨(.type "tuple"), none, .seq #[(.int (-1) 1005)] 0, #[]⟩
noncomputable def ob683 (P : Params) : Obj := ⟨(.type "tuple"), none, .seq #[.none, .none, (.bool false), (.bool false)] 0, #[]⟩
noncomputable def ob771 (P : Params) : Obj := ⟨(.type "tuple"), none, .seq #[(.bool false), (.bool true)] 0, #[]⟩
noncomputable def ob733 (P : Params) : Obj := cdO "read_token" "shlex.read_token" 1202 598 1 0 0 3 728 729 (.ref 730) (.ref 731) (.ref 732) 1210 1211
noncomputable def ob576 (P : Params) : Obj := cdO "read" "StringIO.read" 994 377 2 2 0 3 571 572 (.ref 573) (.ref 574) (.ref 575) 1001 1002
noncomputable def ob696 (P : Params) : Obj := cdO "punctuation_chars" "shlex.punctuation_chars" 1158 544 1 0 0 3 691 692 (.ref 693) (.ref 694) (.ref 695) 1162 1163
noncomputable def ob726 (P : Params) : Obj := cdO "get_token" "shlex.get_token" 1190 571 1 0 0 3 721 722 (.ref 723) (.ref 724) (.ref 725) 1199 1200
noncomputable def ob762 (P : Params) : Obj := cdO "__next__" "shlex.__next__" 1237 748 1 0 0 3 757 758 (.ref 759) (.ref 760) (.ref 761) 1242 1243
noncomputable def ob755 (P : Params) : Obj := cdO "__iter__" "shlex.__iter__" 1230 745 1 0 0 3 750 751 (.ref 752) (.ref 753) (.ref 754) 1234 1235
noncomputable def ob777 (P : Params) : Obj := cdO "split" "split" 1273 753 3 0 0 3 772 773 (.ref 774) (.ref 775) (.ref 776) 1280 1281
noncomputable def ob784 (P : Params) : Obj := cdO "join" "join" 1283 761 1 0 0 3 779 780 (.ref 781) (.ref 782) (.ref 783) 1287 1288
noncomputable def ob792 (P : Params) : Obj := cdO "quote" "quote" 1293 765 1 0 0 3 787 788 (.ref 789) (.ref 790) (.ref 791) 1297 1298
noncomputable def ob414 (P : Params) : Obj := cdO "__check" "StringIO.__check" 820 255 1 0 0 3 409 410 (.ref 411) (.ref 412) (.ref 413) 824 825
noncomputable def ob96 (P : Params) : Obj := cdO "_index" "_index" 426 41 2 0 0 3 91 92 (.ref 93) (.ref 94) (.ref 95) 431 432
noncomputable def ob407 (P : Params) : Obj := cdO "__translated" "StringIO.__translated" 811 247 2 0 0 3 402 403 (.ref 404) (.ref 405) (.ref 406) 817 818
noncomputable def ob400 (P : Params) : Obj := cdO "__init__" "StringIO.__init__" 802 234 3 0 0 3 395 396 (.ref 397) (.ref 398) (.ref 399) 808 809
noncomputable def ob689 (P : Params) : Obj := cdO "__init__" "shlex.__init__" 1146 503 5 0 0 3 684 685 (.ref 686) (.ref 687) (.ref 688) 1155 1156
noncomputable def ob123 (P : Params) : Obj := cdO "__new__" "IOBase.__new__" 470 53 1 1 0 15 118 119 (.ref 120) (.ref 121) (.ref 122) 476 477
noncomputable def ob428 (P : Params) : Obj := cdO "__line" "StringIO.__line" 834 263 2 0 0 3 423 424 (.ref 425) (.ref 426) (.ref 427) 846 847
noncomputable def ob584 (P : Params) : Obj := cdO "readline" "StringIO.readline" 1006 391 2 2 0 3 579 580 (.ref 581) (.ref 582) (.ref 583) 1011 1012
noncomputable def ob63 (P : Params) : Obj := cdO "median" "median" 351 9 1 0 0 3 58 59 (.ref 60) (.ref 61) (.ref 62) 357 358
noncomputable def ob70 (P : Params) : Obj := cdO "median_low" "median_low" 360 19 1 0 0 3 65 66 (.ref 67) (.ref 68) (.ref 69) 365 366
noncomputable def ob77 (P : Params) : Obj := cdO "median_high" "median_high" 368 28 1 0 0 3 72 73 (.ref 74) (.ref 75) (.ref 76) 373 374
noncomputable def ob799 (P : Params) : Obj := cdO "_law_word" "_law_word" 1302 772 1 0 0 3 794 795 (.ref 796) (.ref 797) (.ref 798) 1307 1308
noncomputable def ob804 (P : Params) : Obj := cdO "_law_sent" "_law_sent" 1310 775 2 0 0 3 801 802 .none .none (.ref 803) 1313 1314
noncomputable def ob809 (P : Params) : Obj := cdO "_law_voted" "_law_voted" 1316 785 2 0 0 3 806 807 .none .none (.ref 808) 1319 1320
noncomputable def ob814 (P : Params) : Obj := cdO "_law_lines" "_law_lines" 1322 788 1 0 0 3 811 812 .none .none (.ref 813) 1325 1326
noncomputable def ob819 (P : Params) : Obj := cdO "law" "law" 1328 791 1 0 0 3 816 817 .none .none (.ref 818) 1331 1332
noncomputable def KK (P : Params) : Frag := [(734, ob734 P), (577, ob577 P), (697, ob697 P), (727, ob727 P), (763, ob763 P), (756, ob756 P), (778, ob778 P), (785, ob785 P), (793, ob793 P), (415, ob415 P), (97, ob97 P), (408, ob408 P), (401, ob401 P), (690, ob690 P), (124, ob124 P), (429, ob429 P), (585, ob585 P), (64, ob64 P), (71, ob71 P), (78, ob78 P), (800, ob800 P), (805, ob805 P), (810, ob810 P), (815, ob815 P), (820, ob820 P), (3, ob3 P), (766, ob766 P), (765, ob765 P), (631, ob631 P), (630, ob630 P), (786, ob786 P), (83, ob83 P), (82, ob82 P), (698, ob698 P), (54, ob54 P), (53, ob53 P), (55, ob55 P), (2, ob2 P), (126, ob126 P), (127, ob127 P), (128, ob128 P), (129, ob129 P), (130, ob130 P), (141, ob141 P), (142, ob142 P), (153, ob153 P), (154, ob154 P), (383, ob383 P), (384, ob384 P), (767, ob767 P), (768, ob768 P), (394, ob394 P), (570, ob570 P), (578, ob578 P), (683, ob683 P), (771, ob771 P), (733, ob733 P), (576, ob576 P), (696, ob696 P), (726, ob726 P), (762, ob762 P), (755, ob755 P), (777, ob777 P), (784, ob784 P), (792, ob792 P), (414, ob414 P), (96, ob96 P), (407, ob407 P), (400, ob400 P), (689, ob689 P), (123, ob123 P), (428, ob428 P), (584, ob584 P), (63, ob63 P), (70, ob70 P), (77, ob77 P), (799, ob799 P), (804, ob804 P), (809, ob809 P), (814, ob814 P), (819, ob819 P)]
noncomputable def KAs : List Nat := [734, 577, 697, 727, 763, 756, 778, 785, 793, 415, 97, 408, 401, 690, 124, 429, 585, 64, 71, 78, 800, 805, 810, 815, 820, 3, 766, 765, 631, 630, 786, 83, 82, 698, 54, 53, 55, 2, 126, 127, 128, 129, 130, 141, 142, 153, 154, 383, 384, 767, 768, 394, 570, 578, 683, 771, 733, 576, 696, 726, 762, 755, 777, 784, 792, 414, 96, 407, 400, 689, 123, 428, 584, 63, 70, 77, 799, 804, 809, 814, 819]
/-- some of a fragment -/
noncomputable def pickF (F : Frag) : List Nat → Frag
  | [] => []
  | a :: r => match F.lookup a with | some o => (a, o) :: pickF F r | none => pickF F r
theorem pickF_mem {F : Frag} {a : Nat} {o : Obj} {l : List Nat} : (pickF F l).lookup a = some o → F.lookup a = some o := by
  induction l with
  | nil => exact fun h => nomatch h
  | cons b r ih =>
    show List.lookup a (match F.lookup b with | some o => (b, o) :: pickF F r | none => pickF F r) = some o → _
    cases e : F.lookup b with
    | none => exact ih
    | some x =>
      show List.lookup a ((b, x) :: pickF F r) = some o → _
      rw [List.lookup_cons]
      cases q : a == b with
      | true => exact fun h => (beq_iff_eq.mp q) ▸ e.trans h
      | false => exact ih
theorem KK_in {P : Params} {h : Heap} {F : Frag} (X : F.In h) (e : KK P = pickF F KAs) : (KK P).In h := fun a o i => X a o (pickF_mem (e ▸ i))
end Mine
end
section
open PySem PySem.W PyProof.Rows PySem.Calls
set_option Elab.async false
set_option maxRecDepth 100000
set_option maxHeartbeats 4000000
namespace Mine
/-! the tables: StringIO -/
noncomputable def ΓA (P : Params) : Gam where
  glob := [("type", .ty "type"), ("int", .ty "int"), ("bool", .ty "bool"), ("str", .ty "str"), ("len", .bi "len"), ("isinstance", .bi "isinstance"), ("_index", .raw 97), ("StringIO", .raw 631), ("deque", .ty "collections.deque")]
  fns := [mkFn (KK P) 97 2 [] [("n", .arg 0), ("what", .arg 1)], mkFn (KK P) 415 1 [] [("self", .arg 0)], mkFn (KK P) 577 2 [] [("self", .arg 0), ("size", .arg 1)], mkFn (KK P) 697 1 [] [("self", .arg 0)],
    mkFn (KK P) 408 2 [] [("self", .arg 0), ("s", .arg 1)]]
  plain := [(631, ["_StringIO__newline", "_StringIO__buf", "_StringIO__pos"]), (766, ["instream", "infile", "posix", "eof", "commenters", "wordchars", "whitespace", "whitespace_split", "quotes", "escape", "escapedquotes", "state", "pushback", "lineno", "debug", "token", "filestack", "source", "_punctuation_chars"])]
  meth := [(631, [("read", 577), ("_StringIO__check", 415), ("_StringIO__translated", 408)])]
  prop := [(766, [("punctuation_chars", 697)])]
  bi := [("len", biLen), ("isinstance", biIsi)]
  ty := [("int", tyInt), ("type", tyType)]
  sm := []
  cls := []
theorem ok_glob (P : Params) : globTab (KK P) (ΓA P).glob = true := by kernel_rfl!
theorem ok_plain (P : Params) : plainTab (KK P) (ΓA P).plain = true := by kernel_rfl!
theorem ok_meth (P : Params) : methTab (KK P) (ΓA P).meth = true := by kernel_rfl!
theorem ok_prop (P : Params) : propTab (KK P) (ΓA P).prop [(766, [("punctuation_chars", 698)])] = true := by kernel_rfl!
theorem noconst1 {b : List (Str × Src)} (h : (b.all fun x => match x.2 with | .const _ _ => false | _ => true) = true) : ∀ x ∈ b, match x.2 with | .const v val => VR0 v val | _ => True := by
  intro x hx
  have := List.all_eq_true.mp h x hx
  split
  · rename_i e; rw [e] at this; cases this
  · trivial
theorem ok_97 (P : Params) : FnOk (KK P) (mkFn (KK P) 97 2 [] [("n", .arg 0), ("what", .arg 1)]) := fn_2 (by kernel_rfl!) (by intro S a b; kernel_rfl!) (noconst1 rfl)
theorem ok_415 (P : Params) : FnOk (KK P) (mkFn (KK P) 415 1 [] [("self", .arg 0)]) := fn_1 (by kernel_rfl!) (by intro S a; kernel_rfl!) (noconst1 rfl)
theorem ok_577 (P : Params) : FnOk (KK P) (mkFn (KK P) 577 2 [] [("self", .arg 0), ("size", .arg 1)]) := fn_2 (by kernel_rfl!) (by intro S a b; kernel_rfl!) (noconst1 rfl)
theorem ok_697 (P : Params) : FnOk (KK P) (mkFn (KK P) 697 1 [] [("self", .arg 0)]) := fn_1 (by kernel_rfl!) (by intro S a; kernel_rfl!) (noconst1 rfl)
theorem ok_408 (P : Params) : FnOk (KK P) (mkFn (KK P) 408 2 [] [("self", .arg 0), ("s", .arg 1)]) := fn_2 (by kernel_rfl!) (by intro S a b; kernel_rfl!) (noconst1 rfl)
theorem fnA (P : Params) : ∀ i ∈ (ΓA P).fns, FnOk (KK P) i := by
  intro i hi
  simp only [ΓA, List.mem_cons, List.not_mem_nil, or_false] at hi
  rcases hi with rfl | rfl | rfl | rfl | rfl
  · exact ok_97 P
  · exact ok_415 P
  · exact ok_577 P
  · exact ok_697 P
  · exact ok_408 P
theorem biA : ∀ n g, (n, g) ∈ [("len", biLen), ("isinstance", biIsi)] → BiOk (.builtin n) g := by
  intro n g h
  simp only [List.mem_cons, List.not_mem_nil, or_false] at h
  rcases h with h | h <;> cases h
  · exact biLen_ok
  · exact biIsi_ok
theorem tyA : ∀ n g, (n, g) ∈ [("int", tyInt), ("type", tyType)] → BiOk (.type n) g := by
  intro n g h
  simp only [List.mem_cons, List.not_mem_nil, or_false] at h
  rcases h with h | h <;> cases h
  · exact tyInt_ok
  · exact tyType_ok
theorem okA (prog : Program) (w : World) (X : Nat) : (ΓA w.params).Ok prog w (KK w.params) X where
  spec := fun a sp h => by cases h
  glob := globTab_ok (ok_glob _)
  fns := fnA _
  plain := plainTab_ok (ok_plain _)
  meth := methTab_ok (ok_meth _)
  prop := propTab_ok (ok_prop _)
  bi := biA
  ty := tyA
  cls := fun C fI one h => by cases h
  sm := fun x n h => by cases h
end Mine
end
section
open PySem PySem.W PyProof.Rows PySem.Calls
set_option Elab.async false
set_option maxRecDepth 100000
set_option maxHeartbeats 4000000
namespace Mine
/-! quote, by hand: it runs within a generator, whose frames nobody tells -/
section
variable {prog : Program} {w : World} {A : Around} {E : Value → Shared → Prop} {s : Shared} {env : Env}
theorem call1 {g : Str} {gp pos : Pos} {e : Expr} {fval : Value} {Q : Value → Shared → Prop} (P : Heap → Prop) (hk : ∀ h, P h → ∃ k, (k = Keeper.frame ∨ k = Keeper.machine ∨ k = Keeper.boundFrame) ∧ Looks (model prog w) h (keeperOf fval) k)
    (he : notStar e = true) (hf : wpAny (model prog w) A (eval (.Name g gp) env) (fun fv s₁ => fv = fval ∧ wpAny (model prog w) A (eval e env) (fun v s₂ => P s₂.heap ∧ wpAny (model prog w) A (call fval [v]) Q E s₂) E s₁) E s) :
    wpAny (model prog w) A (eval (.Call (.Name g gp) [e] [] pos) env) Q E s := by
  refine (show wpAny _ _ (eval _ _ >>= fun fv => callWith _ fv [] _ _) _ _ _ from wpAny_bind (wpAny_mono hf (fun fv s₁ h₁ => ?_) fun _ _ x => x))
  obtain ⟨rfl, h₁⟩ := h₁
  have hp : allPlain [e] = true := show (notStar e && true) = true by rw [he]; rfl
  refine callWith_of (by rw [star_plain hp, kw_none (kws := []) rfl]; rfl) hk ?_
  refine evalArgs_kw2 (kw_all (kws := []) rfl) (spliced_more (wpAny_mono h₁ (fun v s₂ h₂ => ?_) fun _ _ x => x) (star_cons he)) (star_cons he)
  refine spliced_none (kwAll_nil ?_)
  rw [kw_names (kws := []) rfl]
  exact h₂
end
/-- its first two statements -/
noncomputable def quMk (p : Nat → Pos) (k : Nat → Nat) (z : Stmt) : List Stmt := [.If (.UnaryOp .Not (.Name "s" (p 0)) (p 1)) [.Return (some (.Constant (.str "''") (k 0) (p 2))) (p 3)] [] (p 4),
  .If (.Compare (.Call (.Name "_find_unsafe" (p 5)) [.Name "s" (p 6)] [] (p 7)) [.Is] [.Constant .none (k 1) (p 8)] (p 9)) [.Return (some (.Name "s" (p 10))) (p 11)] [] (p 12), z]
noncomputable def quP (b : List Stmt) (i : Nat) : Pos := getN dP i [(sE 0 [0] (sI 0 b)).pos, (sE 0 [] (sI 0 b)).pos, (sE 0 [] (sI 0 (subS (sI 0 b)))).pos, (sI 0 (subS (sI 0 b))).pos, (sI 0 b).pos,
  (sE 0 [0, 0] (sI 1 b)).pos, (sE 0 [0, 1] (sI 1 b)).pos, (sE 0 [0] (sI 1 b)).pos, (sE 0 [1] (sI 1 b)).pos, (sE 0 [] (sI 1 b)).pos, (sE 0 [] (sI 0 (subS (sI 1 b)))).pos, (sI 0 (subS (sI 1 b))).pos, (sI 1 b).pos]
noncomputable def quK (b : List Stmt) (i : Nat) : Nat := getN 0 i [kC (sE 0 [] (sI 0 (subS (sI 0 b)))), kC (sE 0 [1] (sI 1 b))]
noncomputable def quI (P : Params) : FnI := mkFn (KK P) 793 1 [] [("s", .arg 0)]
theorem ok_793 (P : Params) : FnOk (KK P) (quI P) := fn_1 (by kernel_rfl!) (by intro S a; kernel_rfl!) (noconst1 rfl)
theorem qu_shape (P : Params) : (quI P).body = quMk (quP (quI P).body) (quK (quI P).body) (sI 2 (quI P).body) := by kernel_rfl!
theorem qu_names (P : Params) : getA "s" (quI P).sc.names = some .local ∧ getA "_find_unsafe" (quI P).sc.names = some .globalImplicit := ⟨by kernel_rfl!, by kernel_rfl!⟩
/-- a word that needs no quotes -/
noncomputable def Safe (P : Params) (x : Str) : Prop := x.length ≠ 0 ∧ x.length ≤ 100 ∧ ∀ (p : Program) (t : Tok), peek (KK P) ⟨p, P⟩ (Builtin.«re.Pattern.search» ⟨[.ref 83, .str x t], []⟩) = some (.done (.ret .none))
theorem call_786 (P : Params) (p : Program) (v : Value) : peek (KK P) ⟨p, P⟩ (callAny (.ref 786) ⟨[v], []⟩) = some (.again (.builtin "re.Pattern.search" ⟨[.ref 83, v], []⟩)) := by kernel_rfl!
theorem keep_786 (P : Params) (p : Program) : peek (KK P) ⟨p, P⟩ (keeperOf (.ref 786)) = some .machine := by kernel_rfl!
theorem entry_search : entryFor table "re.Pattern.search" = some Builtin.«re.Pattern.search» := entryFor_of_tree (by kernel_rfl)
section
variable {prog : Program} {w : World} {mg mb : Str → Option Value} {A : Around} {E : Value → Shared → Prop} {s : Shared} {env : Env}
theorem search_none {x : Str} {t : Tok} (G : (KK w.params).In s.heap) (hs : Safe w.params x) {Rr : Result → Shared → Prop} (q : Rr (.ok (.ret .none)) s) : codeAny (model prog w) A (.call (.ref 786) ⟨[.str x t], []⟩) Rr s := by
  refine codeAny_of_tree ?_
  show wpAny _ A.in1 (callAny (.ref 786) ⟨[.str x t], []⟩) _ _ s
  refine (Looks.of_peek (M := model prog w) G (call_786 _ _ _)).here ⟨plainId_quiet (by decide +kernel) _, codeAny_builtin entry_search ?_⟩
  exact (Looks.of_peek (M := model prog w) G (hs.2.2 _ _)).here q
theorem quote_call (hh : A.handled = none) (hd : A.depth < recursionLimit) (G : Gd (KK w.params) mg mb s.heap) {x : Str} {t : Tok} (hs : Safe w.params x) {Rr : Result → Shared → Prop}
    (q : ∀ h' tk, (∀ b o, s.heap.get? b = some o → h'.get? b = some o) → Rr (.ok (.ret (.str x t))) { s with heap := h', toks := tk }) : codeAny (model prog w) A (.call (.ref 793) ⟨[.str x t], []⟩) Rr s := by
  obtain ⟨oc, od, osl, name, params, dV, kV, doc, pm, an, ct, hlook, hbind⟩ := (ok_793 w.params).look
  have hb := hbind s [.str x t] [] G.inK rfl rfl
  have hbody := qu_shape w.params
  have I := ok_793 w.params
  refine codeAny_call_def (fd := fnOf name (quI w.params).q params (quI w.params).body (quI w.params).sc dV kV doc pm an (quI w.params).cdv ct) (body := (quI w.params).body) hd (G.inK _ _ hlook) rfl G.nolimit (codeRec_of G.inK I.code) rfl hb
    ?_ ?_ (fun h₁ hns hk₁ => ?_) I.co I.gen I.kind
  · intro y hy e
    have hm : y.1 ∈ cellNames (quI w.params).sc.names := cellNames_mem (by rw [← e]; exact hy)
    rw [← I.cell] at hm
    cases hm
  · intro y hy
    obtain ⟨b, hb', rfl⟩ := List.mem_map.mp hy
    rcases I.locs b hb' with h | ⟨-, h⟩
    · exact h
    · cases h
  · have G₁ := G.keeps hk₁
    refine Eq.mpr (congrArg (fun b => wpAny _ _ (execs b _) _ _ _) hbody) ?_
    have nmS : ∀ (p : Pos) (A : Around) (E : Value → Shared → Prop) (Q : Value → Shared → Prop) (h₂ : Heap) (tk : Nat), (∀ b o, h₁.get? b = some o → h₂.get? b = some o) → Q (.str x t) { s with heap := h₂, toks := tk } →
        wpAny (model prog w) A (eval (.Name "s" p) (callEnv (fnOf name (quI w.params).q params (quI w.params).body (quI w.params).sc dV kV doc pm an (quI w.params).cdv ct) s.heap.objs.size 793)) Q E { s with heap := h₂, toks := tk } :=
      fun p A E Q h₂ tk hk₂ hq => ldG (hns.keeps hk₂) rfl hq I.kind (by have := (qu_names w.params).1; rw [← lookup_getA] at this; exact this) (by decide)
    refine wpAny_execs_cons (wpAny_If (isTrue_not (isTrue_plain (nmS _ _ _ _ _ _ (fun _ _ e => e) ?_) rfl)))
    refine PySem.P.truthy_str (str_fit (Nat.le_trans hs.2.1 (by rw [sizeLine_eq]; decide))) ?_
    have hne : ((x.length : Int) != 0) = true := by
      have := hs.1
      simp only [bne_iff_ne, ne_eq]
      omega
    rw [hne]
    refine wpAny_execs_nil ?_
    dsimp only
    refine wpAny_execs_cons (wpAny_If (wpAny_isTrue_Compare1 (call1 (P := (KK w.params).In) (fun h X => ⟨.machine, .inr (.inl rfl), Looks.of_peek X (keep_786 _ _)⟩) rfl (fval := .ref 786) ?_) rfl))
    refine Name_function_global I.kind (by have := (qu_names w.params).2; rw [← lookup_getA] at this; exact this) (loadGlobal_global (by exact G₁.g) (mg_of G₁.inK G₁.g (by kernel_rfl!)) ⟨rfl, ?_⟩) (by decide)
    refine nmS _ _ _ _ _ _ (fun _ _ e => e) ⟨G₁.inK, wpAny_call (search_none G₁.inK hs ?_)⟩
    refine wpAny_Constant_none ?_
    refine is_of (c := true) rfl ?_
    refine wpAny_truthy_bool ?_
    simp only [if_true]
    refine wpAny_execs_cons (wpAny_Return_some (nmS _ _ _ _ _ _ (fun _ _ e => e) ?_))
    exact q _ _ hk₁
end
end Mine
end
section
open PySem PySem.W PyProof.Rows PySem.Calls
set_option Elab.async false
set_option maxRecDepth 100000
set_option maxHeartbeats 4000000
namespace Mine
/-! a word that needs quotes: the search finds something -/
noncomputable def hitM (P : Params) (p : Program) (T : Builtin.Re.ReTarget) : Bool := match peek (KK P) ⟨p, P⟩ (Builtin.Re.reRunToEnd (Sre.forSearch T.code T.text T.groups T.pos T.lim false)) with
  | some m => m.isSome
  | none => false
noncomputable def hitB (P : Params) (p : Program) (t : Tok) (x : Str) : Bool := match peek (KK P) ⟨p, P⟩ (Builtin.Re.reTarget "re.Pattern.search" "search" ⟨[.ref 83, .str x t], []⟩) with
  | some T => Nat.beq T.groups 0 && hitM P p T
  | none => false
structure Hit (P : Params) (p : Program) (t : Tok) (x : Str) (T : Builtin.Re.ReTarget) (m : Sre.M) : Prop where
  t : peek (KK P) ⟨p, P⟩ (Builtin.Re.reTarget "re.Pattern.search" "search" ⟨[.ref 83, .str x t], []⟩) = some T
  g : T.groups = 0
  m : peek (KK P) ⟨p, P⟩ (Builtin.Re.reRunToEnd (Sre.forSearch T.code T.text T.groups T.pos T.lim false)) = some (some m)
theorem hit_ok {P : Params} {p : Program} {t : Tok} {x : Str} (h : hitB P p t x = true) : ∃ T m, Hit P p t x T m := by
  unfold hitB at h
  cases e : peek (KK P) ⟨p, P⟩ (Builtin.Re.reTarget "re.Pattern.search" "search" ⟨[.ref 83, .str x t], []⟩) with
  | none => rw [e] at h; exact absurd h Bool.false_ne_true
  | some T =>
    rw [e] at h
    have h := Bool.and_eq_true_iff.mp h
    have h2 := h.2
    unfold hitM at h2
    cases e2 : peek (KK P) ⟨p, P⟩ (Builtin.Re.reRunToEnd (Sre.forSearch T.code T.text T.groups T.pos T.lim false)) with
    | none => rw [e2] at h2; exact absurd h2 Bool.false_ne_true
    | some m =>
      rw [e2] at h2
      cases m with
      | none => exact absurd h2 Bool.false_ne_true
      | some m => exact ⟨T, m, e, beq_eq h.1, e2⟩
section
variable {prog : Program} {w : World} {mg mb : Str → Option Value} {A : Around} {E : Value → Shared → Prop} {s : Shared} {env : Env}
theorem newMatch0 {p x : Value} {a b : Nat} {m : Sre.M} {M : Model} {Q : Value → Shared → Prop} (q : ∀ c h', (∀ b o, s.heap.get? b = some o → h'.get? b = some o) → Q (.ref c) { s with heap := h' }) :
    wpAny M A (Builtin.Re.reNewMatch p x 0 a b m) Q E s := by
  show wpAny M A (newTuple _ >>= fun v => newFields "re.Match" [x, p, rawInt a, rawInt b, rawInt m.lastindex, v]) Q E s
  refine wpAny_bind (wpAny_newObj_type (hd := by show 2 ≤ sizeLine; rw [sizeLine_eq]; decide) (wpAny_newObj_type (q _ _ fun b o e => Heap.get?_push_of_some _ (Heap.get?_push_of_some _ e))))
theorem search_hit {x : Str} {t : Tok} (G : (KK w.params).In s.heap) (hs : ∀ (p : Program) (t : Tok), hitB w.params p t x = true) {Rr : Result → Shared → Prop} (q : ∀ c h', (∀ b o, s.heap.get? b = some o → h'.get? b = some o) → Rr (.ok (.ret (.ref c))) { s with heap := h' }) : codeAny (model prog w) A (.call (.ref 786) ⟨[.str x t], []⟩) Rr s := by
  refine codeAny_of_tree ?_
  show wpAny _ A.in1 (callAny (.ref 786) ⟨[.str x t], []⟩) _ _ s
  refine (Looks.of_peek (M := model prog w) G (call_786 _ _ _)).here ⟨plainId_quiet (by decide +kernel) _, codeAny_builtin entry_search ?_⟩
  obtain ⟨T, m, H⟩ := hit_ok (hs prog t)
  unfold Builtin.«re.Pattern.search»
  refine wpAny_bind ((Looks.of_peek (M := model prog w) G H.t).here ?_)
  unfold Builtin.Re.reAnswer
  refine wpAny_bind ((Looks.of_peek (M := model prog w) G H.m).here ?_)
  rw [H.g]
  exact wpAny_bind (newMatch0 fun c h' hk => wpAny_pure (q c h' hk))
end
end Mine
end
section
open PySem PySem.W PyProof.Rows PySem.Calls
set_option Elab.async false
set_option maxRecDepth 100000
set_option maxHeartbeats 4000000
namespace Mine
/-- a word, put in quotes -/
noncomputable def quoted (x : Str) : Str := (Str.ofString "'" ++ Txt.replace x (Str.ofString "'") (Str.ofString "'\"'\"'")) ++ Str.ofString "'"
noncomputable def quZ (p : Nat → Pos) (k : Nat → Nat) : Stmt := .Return (some (.BinOp (.BinOp (.Constant (.str "'") (k 0) (p 0)) .Add (.Call (.Attribute (.Name "s" (p 1)) "replace" (p 2)) [.Constant (.str "'") (k 1) (p 3), .Constant (.str "'\"'\"'") (k 2) (p 4)] [] (p 5)) (p 6)) .Add (.Constant (.str "'") (k 3) (p 7)) (p 8))) (p 9)
noncomputable def quZP (s : Stmt) (i : Nat) : Pos := getN dP i [(sE 0 [0, 0] s).pos, (sE 0 [0, 1, 0, 0] s).pos, (sE 0 [0, 1, 0] s).pos, (sE 0 [0, 1, 1] s).pos, (sE 0 [0, 1, 2] s).pos, (sE 0 [0, 1] s).pos, (sE 0 [0] s).pos, (sE 0 [1] s).pos, (sE 0 [] s).pos, s.pos]
noncomputable def quZK (s : Stmt) (i : Nat) : Nat := getN 0 i [kC (sE 0 [0, 0] s), kC (sE 0 [0, 1, 1] s), kC (sE 0 [0, 1, 2] s), kC (sE 0 [1] s)]
theorem quZ_shape (P : Params) : sI 2 (quI P).body = quZ (quZP (sI 2 (quI P).body)) (quZK (sI 2 (quI P).body)) := by kernel_rfl!
theorem quZ_line (P : Params) : Nat.beq (quZP (sI 2 (quI P).body) 2).endLine (quZP (sI 2 (quI P).body) 5).line = true := by kernel_rfl!
section
variable {prog : Program} {w : World} {A : Around} {E : Value → Shared → Prop} {s : Shared} {env : Env}
theorem quZ_ok {x : Str} {t : Tok} (hx : x.length ≤ 100) (hr : (Txt.replace x (Str.ofString "'") (Str.ofString "'\"'\"'")).length ≤ 1000) {p : Nat → Pos} {k : Nat → Nat} (hl : (p 2).endLine = (p 5).line) {Q : Flow → Shared → Prop}
    (nm : ∀ (A : Around) (E : Value → Shared → Prop) (Q : Value → Shared → Prop) (tk : Nat), Q (.str x t) { s with toks := tk } → wpAny (model prog w) A (eval (.Name "s" (p 1)) env) Q E { s with toks := tk })
    (q : ∀ t' tk, Q (.ret (.str (quoted x) t')) { s with toks := tk }) : wpAny (model prog w) A (execs [quZ p k] env) Q E s := by
  refine wpAny_execs_cons (wpAny_Return_some ?_)
  refine wpAny_BinOp (wpAny_BinOp (wpAny_Constant_str ?_))
  refine meth_call (hp := rfl) (hb := rfl) hl (by show 2 + 0 + 1 ≤ 29; decide) (nm _ _ _ _ (GM.replace ?_))
  refine callWith_of (P := fun _ => True) rfl (fun h _ => ⟨.machine, .inr (.inl rfl), Looks.of_pure rfl⟩) ?_
  refine evalArgs_kw2 rfl (spliced_more (wpAny_Constant_str (spliced_more (wpAny_Constant_str (spliced_none (kwAll_nil ⟨trivial, ?_⟩))) rfl)) rfl) rfl
  refine SC.replaceW (Nat.succ_ne_zero _) (Nat.succ_ne_zero _) (Nat.ne_of_lt (Nat.lt_succ_self _)) rfl (Nat.le_trans hx (by decide)) (by decide) fun t' k1 => ?_
  have z1 : (Str.ofString "'").length + (Txt.replace x (Str.ofString "'") (Str.ofString "'\"'\"'")).length ≤ 1001 := Nat.add_comm _ _ ▸ Nat.add_le_add_right hr 1
  refine SB.add (fun t2 k2 => wpAny_Constant_str (SB.add (fun t3 k3 => q t3 k3) ?_)) (Nat.le_trans z1 (by rw [sizeLine_eq]; decide))
  have z2 : (Str.ofString "'" ++ Txt.replace x (Str.ofString "'") (Str.ofString "'\"'\"'")).length = (Str.ofString "'").length + (Txt.replace x (Str.ofString "'") (Str.ofString "'\"'\"'")).length := Str.length_append _ _
  rw [z2]
  exact Nat.le_trans (Nat.add_le_add_right z1 _) (by rw [sizeLine_eq]; decide)
end
end Mine
end
section
open PySem PySem.W PyProof.Rows PySem.Calls
set_option Elab.async false
set_option maxRecDepth 100000
set_option maxHeartbeats 4000000
namespace Mine
noncomputable def retOf : Flow → Value
  | .ret v => v
  | _ => .none
structure QEnv (env : Env) : Prop where
  k : env.scope.kind = .function
  f : env.kindOf "_find_unsafe" = some .globalImplicit
  g : env.globals = mainGlobals
section
variable {prog : Program} {w : World} {mg mb : Str → Option Value} {A : Around} {E : Value → Shared → Prop} {s : Shared} {env : Env}
/-- quote is entered -/
theorem quote_enter (_hh : A.handled = none) (hd : A.depth < recursionLimit) (G : Gd (KK w.params) mg mb s.heap) {x : Str} {t : Tok} {Rr : Result → Shared → Prop}
    (q : ∀ (A : Around) (E : Value → Shared → Prop) (env : Env) (h₁ : Heap) (tk : Nat), QEnv env → (∀ b o, s.heap.get? b = some o → h₁.get? b = some o) →
      (∀ (p : Pos) (A : Around) (E : Value → Shared → Prop) (Q : Value → Shared → Prop) (h₂ : Heap) (tk : Nat), (∀ b o, h₁.get? b = some o → h₂.get? b = some o) → Q (.str x t) { s with heap := h₂, toks := tk } → wpAny (model prog w) A (eval (.Name "s" p) env) Q E { s with heap := h₂, toks := tk }) →
      wpAny (model prog w) A (execs (quI w.params).body env) (fun fl s' => Rr (.ok (.ret (retOf fl))) s') E { s with heap := h₁, toks := tk }) : codeAny (model prog w) A (.call (.ref 793) ⟨[.str x t], []⟩) Rr s := by
  obtain ⟨oc, od, osl, name, params, dV, kV, doc, pm, an, ct, hlook, hbind⟩ := (ok_793 w.params).look
  have hb := hbind s [.str x t] [] G.inK rfl rfl
  have I := ok_793 w.params
  refine codeAny_call_def (fd := fnOf name (quI w.params).q params (quI w.params).body (quI w.params).sc dV kV doc pm an (quI w.params).cdv ct) (body := (quI w.params).body) hd (G.inK _ _ hlook) rfl G.nolimit (codeRec_of G.inK I.code) rfl hb
    ?_ ?_ (fun h₁ hns hk₁ => ?_) I.co I.gen I.kind
  · intro y hy e
    have hm : y.1 ∈ cellNames (quI w.params).sc.names := cellNames_mem (by rw [← e]; exact hy)
    rw [← I.cell] at hm
    exact nomatch hm
  · intro y hy
    obtain ⟨b, hb', e⟩ := List.mem_map.mp hy
    subst e
    rcases I.locs b hb' with h | ⟨-, h⟩
    · exact h
    · exact nomatch h
  · refine wpAny_mono (q _ _ _ h₁ _ ?_ hk₁ fun p A E Q h₂ tk hk₂ hq => ?_) (fun fl _ h => by cases fl <;> exact h) fun _ _ h => h
    · exact ⟨I.kind, (lookup_getA ..).trans (qu_names w.params).2, rfl⟩
    exact ldG (hns.keeps hk₂) rfl hq I.kind ((lookup_getA ..).trans (qu_names w.params).1) (by decide)
/-- what quote makes of a word -/
structure QHit (P : Params) (x : Str) : Prop where
  ne : x.length ≠ 0
  le : x.length ≤ 100
  hit : ∀ (p : Program) (t : Tok), hitB P p t x = true
  fit : (Txt.replace x (Str.ofString "'") (Str.ofString "'\"'\"'")).length ≤ 1000
noncomputable def QOk (P : Params) (x y : Str) : Prop := (x = "" ∧ y = "''") ∨ (Safe P x ∧ y = x) ∨ (QHit P x ∧ y = quoted x)
theorem quote_any (hh : A.handled = none) (hd : A.depth < recursionLimit) (G : Gd (KK w.params) mg mb s.heap) {x y : Str} {t : Tok} (hs : QOk w.params x y) {Rr : Result → Shared → Prop}
    (q : ∀ t' h' tk, (∀ b o, s.heap.get? b = some o → h'.get? b = some o) → Rr (.ok (.ret (.str y t'))) { s with heap := h', toks := tk }) : codeAny (model prog w) A (.call (.ref 793) ⟨[.str x t], []⟩) Rr s := by
  rcases hs with h | h | h
  · obtain ⟨e1, e2⟩ := h
    subst e1 e2
    refine quote_enter hh hd G fun A E env h₁ tk₀ V hk nm => ?_
    rw [qu_shape]
    refine wpAny_execs_cons (wpAny_If (isTrue_not (isTrue_plain (nm _ _ _ _ _ _ (fun _ _ e => e) ?_) rfl)))
    refine PySem.P.truthy_str (str_fit (show 0 ≤ _ from Nat.zero_le _)) ?_
    refine wpAny_execs_cons (wpAny_Return_some (wpAny_Constant_str ?_))
    exact q _ _ _ hk
  · obtain ⟨h, e2⟩ := h
    subst e2
    exact quote_call hh hd G h fun h' tk hk => q t h' tk hk
  · obtain ⟨h, e2⟩ := h
    subst e2
    refine quote_enter hh hd G fun A E env h₁ tk₀ V hk nm => ?_
    rw [qu_shape, quZ_shape]
    have G₁ := G.keeps hk
    refine wpAny_execs_cons (wpAny_If (isTrue_not (isTrue_plain (nm _ _ _ _ _ _ (fun _ _ e => e) ?_) rfl)))
    refine PySem.P.truthy_str (str_fit (Nat.le_trans h.le (by rw [sizeLine_eq]; decide))) ?_
    rw [show ((x.length : Int) != 0) = true from bne_iff_ne.mpr fun e => h.ne (Int.ofNat_eq_zero.mp e)]
    refine wpAny_execs_nil ?_
    refine wpAny_execs_cons (wpAny_If (wpAny_isTrue_Compare1 (call1 (P := (KK w.params).In) (fun h X => ⟨.machine, .inr (.inl rfl), Looks.of_peek X (keep_786 _ _)⟩) rfl (fval := .ref 786) ?_) rfl))
    refine Name_function_global V.k V.f (loadGlobal_global (V.g ▸ G₁.g) (mg_of G₁.inK G₁.g (by kernel_rfl!)) ⟨rfl, ?_⟩) (by decide)
    refine nm _ _ _ _ _ _ (fun _ _ e => e) ⟨G₁.inK, wpAny_call (search_hit G₁.inK h.hit fun c h' hk' => ?_)⟩
    refine wpAny_Constant_none ?_
    refine is_of (c := false) rfl ?_
    refine wpAny_truthy_bool ?_
    refine wpAny_execs_nil ?_
    refine quZ_ok h.le h.fit (beq_eq (quZ_line w.params)) (fun A E Q tk hq => nm _ _ _ _ _ _ hk' hq) fun t' tk => ?_
    exact q _ _ _ fun b o e => hk' b o (hk b o e)
end
end Mine
end
section
open PySem PySem.W PyProof.Rows PySem.Calls PySem.SeqAt
set_option Elab.async false
set_option maxRecDepth 100000
set_option maxHeartbeats 4000000
namespace Mine
/-! join: a generator over the words, quote in each turn -/
section
variable {w : World} {os₀ : Glo} {h₀ : Heap} {L : Addr} {outs : Fx} {loc : Loc} {st : St} {ρ : Lab} {s : Shared}
/-- the part that is the same for the whole call, out of the ledger and back -/
structure CtOut (w : World) (os₀ : Glo) (h₀ : Heap) (L : Addr) (outs : Fx) (loc : Loc) (st : St) (ρ : Lab) (s : Shared) (ps : Array Value) : Prop where
  at_ : s.heap.get? 780 = some (tbO ps)
  ok : TriplesOk ps.toList
  free : h₀.get? 780 = none
  back : ∀ (s' : Shared) (ps' : Array Value), s'.os = s.os → 0 < s'.toks → AllBare s'.gens → (∀ b o, b ≠ 780 → s.heap.get? b = some o → s'.heap.get? b = some o) → s'.heap.get? 780 = some (tbO ps') → TriplesOk ps'.toList →
    R w os₀ h₀ L outs loc st ρ s'
theorem nd_mid {A F : List (Addr × Obj)} {x : Addr × Obj} (nd : ((A ++ x :: F).map (·.1)).Nodup) : (∀ p ∈ A ++ F, p.1 ≠ x.1) ∧ ∀ y : Addr × Obj, y.1 = x.1 → ((A ++ y :: F).map (·.1)).Nodup := by
  refine ⟨fun p hp e => ?_, fun y e => ?_⟩
  · have h := ((List.perm_middle (a := x) (l₁ := A) (l₂ := F)).map (·.1)).nodup_iff.mp nd
    exact (List.nodup_cons.mp h).1 (List.mem_map.mpr ⟨p, hp, e⟩)
  · rw [List.map_append, List.map_cons] at nd ⊢
    rw [e]; exact nd
theorem R.ctOut (r : R w os₀ h₀ L outs loc st ρ s) : ∃ ps, CtOut w os₀ h₀ L outs loc st ρ s ps := by
  obtain ⟨m, M⟩ := r.fr
  obtain ⟨ns, D⟩ := r.led
  obtain ⟨pre, l, X⟩ := D.T.parts
  obtain ⟨c, fs, Y⟩ := X.r
  obtain ⟨ps, hc, ht⟩ := Y.ct
  have e : ∀ x : Addr × Obj, pre ++ (outs.raw ++ (ρ.im ++ ([x] ++ fs))) = (pre ++ (outs.raw ++ ρ.im)) ++ x :: fs := fun x => by
    rw [← List.append_assoc outs.raw, ← List.append_assoc pre]; rfl
  have eN := X.e
  rw [Y.e, hc, e] at eN
  have hP := D.N (780, tbO ps) (eN ▸ List.mem_append_right _ List.mem_cons_self)
  obtain ⟨n1, n2⟩ := nd_mid (eN ▸ D.nd)
  refine ⟨ps, hP.1, ht, hP.2.2, fun s' ps' hos htk hgs hk hop' ht' => ?_⟩
  obtain ⟨oL, es, ep, F⟩ := M.F.ns
  refine ⟨⟨m, ⟨⟨oL, es, ep, hk _ _ (Ne.symm hP.2.1) F.1, F.2⟩, fun b x hb => hk b x (fun q => nomatch (q ▸ hb).symm.trans hP.2.2) (M.F.keep b x hb), M.F.above⟩, M.hm⟩, ⟨_, fun p hp => ?_, X.put _ _ ⟨_, fs, rfl, ⟨ps', rfl, ht'⟩, Y.fr⟩, ?_⟩, r.free, hos.trans r.os, hgs, htk⟩
  · rw [e] at hp
    rcases List.mem_cons.mp (List.perm_middle.mem_iff.mp hp) with h | h
    · subst h; exact ⟨hop', hP.2⟩
    · have hp3 := D.N p (eN ▸ List.perm_middle.mem_iff.mpr (.tail _ h))
      exact ⟨hk _ _ (n1 p h) hp3.1, hp3.2⟩
  · rw [e]; exact n2 _ rfl
end
theorem wpAny_genexprCodeT {M : Model} {A : Around} {E : Value → Shared → Prop} {s : Shared} {env : Env} {c P : Addr} {ps : Array Value} {pos : Pos} {qualname : Str} {scope : Scope} {Q : Value → Shared → Prop} (hc : env.code = .ref c) (hok : s.heap.IsCode c P ps) (ht : s.heap.TableAt c P ps)
    (hQ : ∀ code h' tk ps', Heap.ExtBut P s.heap h' → h'.IsCode c P ps' → h'.TableAt c P ps' → Q code { s with heap := h', toks := tk }) :
    wpAny M A (genexprCode env pos qualname scope) Q E s := by
  cases hnf : codeAmong pos ps.toList with
  | some cv => exact wpAny_genexprCode_hit hc hok hnf (hQ cv s.heap s.toks ps (Heap.ExtBut.refl _ _) hok ht)
  | none => exact wpAny_genexprCodeX hc hok ht hnf fun c' h' tk hx _ _ hi _ hta _ => hQ _ h' tk _ hx hi hta
noncomputable def jnI (P : Params) : FnI := mkFn (KK P) 785 1 [] [("split_command", .arg 0)]
theorem ok_785 (P : Params) : FnOk (KK P) (jnI P) := fn_1 (by kernel_rfl!) (by intro S a; kernel_rfl!) (noconst1 rfl)
noncomputable def jnMk (p : Nat → Pos) (k : Nat) (sc : Scope) : List Stmt := [.Return (some (.Call (.Attribute (.Constant (.str " ") k (p 0)) "join" (p 1)) [.GeneratorExp (.Call (.Name "quote" (p 2)) [.Name "arg" (p 3)] [] (p 4)) [⟨.Name "arg" (p 5), .Name "split_command" (p 6), [], 0⟩] sc (p 7)] [] (p 8))) (p 9)]
noncomputable def jnP (b : List Stmt) (i : Nat) : Pos := getN dP i [(sE 0 [0, 0] (sI 0 b)).pos, (sE 0 [0] (sI 0 b)).pos, (sE 0 [1, 0, 0] (sI 0 b)).pos, (sE 0 [1, 0, 1] (sI 0 b)).pos, (sE 0 [1, 0] (sI 0 b)).pos, (sE 0 [1, 1] (sI 0 b)).pos, (sE 0 [1, 2] (sI 0 b)).pos,
  (sE 0 [1] (sI 0 b)).pos, (sE 0 [] (sI 0 b)).pos, (sI 0 b).pos]
noncomputable abbrev jnS (P : Params) : Scope := scE (sE 0 [1] (sI 0 (jnI P).body))
theorem jn_body (P : Params) : (jnI P).body = jnMk (jnP (jnI P).body) (kC (sE 0 [0, 0] (sI 0 (jnI P).body))) (jnS P) := by kernel_rfl!
theorem jn_line (P : Params) : Nat.beq (jnP (jnI P).body 1).endLine (jnP (jnI P).body 8).line = true := by kernel_rfl!
structure ScG (sc : Scope) : Prop where
  k : sc.kind = .function
  co : sc.isCoroutine = false
  cell : cellNames sc.names = []
  free : freeNames sc.names = []
  dot : getA ".0" sc.names = some .local
  arg : getA "arg" sc.names = some .local
  quote : getA "quote" sc.names = some .globalImplicit
theorem jn_scg (P : Params) : ScG (jnS P) := ⟨by kernel_rfl!, by kernel_rfl!, by kernel_rfl!, by kernel_rfl!, by kernel_rfl!, by kernel_rfl!, by kernel_rfl!⟩
theorem ScG.noCell {sc : Scope} (S : ScG sc) : ∀ y ∈ sc.names, y.2 ≠ .cell := fun y hy e => by
  have h := cellNames_mem (show (y.1, NameKind.cell) ∈ sc.names from e ▸ hy)
  rw [S.cell] at h
  exact nomatch h
theorem ScG.lk {sc : Scope} {x : Str} {k : NameKind} (h : getA x sc.names = some k) : sc.names.lookup x = some k := (lookup_getA ..).trans h
theorem jn_name (P : Params) : getA "split_command" (jnI P).sc.names = some .local := by kernel_rfl!
theorem jn_cell (P : Params) : (jnI P).cell = [] := by kernel_rfl!
theorem jn_code (P : Params) : (jnI P).cdv = .ref 784 := by kernel_rfl!
noncomputable def isIn : Value → Bool | .int _ _ => true | _ => false
noncomputable def isBo : Value → Bool | .bool _ => true | _ => false
noncomputable def isSt : Value → Bool | .str _ _ => true | _ => false
theorem isIn_ok {v : Value} (h : isIn v = true) : ∃ i t, v = .int i t := by
  cases v with
  | int i t => exact ⟨i, t, rfl⟩
  | _ => cases h
theorem isBo_ok {v : Value} (h : isBo v = true) : ∃ b, v = .bool b := by
  cases v with
  | bool b => exact ⟨b, rfl⟩
  | _ => cases h
theorem isSt_ok {v : Value} (h : isSt v = true) : ∃ x t, v = .str x t := by
  cases v with
  | str x t => exact ⟨x, t, rfl⟩
  | _ => cases h
noncomputable def codO (P : Params) : Obj := ((KK P).lookup 784).get (by kernel_rfl!)
noncomputable def flds : Data → Array Value | .fields vs => vs | _ => #[]
noncomputable abbrev codV (P : Params) : Array Value := flds (codO P).data
theorem cd_look (P : Params) : (KK P).lookup 784 = some (codO P) := (Option.some_get _).symm
theorem cd_data (P : Params) : (codO P).data = .fields (codV P) := by kernel_rfl!
theorem cd_cls (P : Params) : (codO P).cls = .type "code" := by kernel_rfl!
theorem cd_11 (P : Params) : (codV P)[11]? = some (.ref 780) := by kernel_rfl!
theorem cd_18 (P : Params) : isSt ((codV P).getD 18 .none) = true := by kernel_rfl!
theorem cd_7 (P : Params) : isIn ((codV P).getD 7 .none) = true := by kernel_rfl!
theorem cd_9 (P : Params) : isBo ((codV P).getD 9 .none) = true := by kernel_rfl!
theorem cd_10 (P : Params) : isIn ((codV P).getD 10 .none) = true := by kernel_rfl!
theorem cd_p (P : Params) : (codV P).getD 11 .none = .ref 780 := by
  rw [Array.getD_eq_getD_getElem?, cd_11]; rfl
theorem cd_isCode {P : Params} {h : Heap} (X : (KK P).In h) {ps : Array Value} (ho : h.get? 780 = some (tbO ps)) (ht : TriplesOk ps.toList) : h.IsCode 784 780 ps := by
  obtain ⟨x, t, h18⟩ := isSt_ok (cd_18 P)
  obtain ⟨i, t7, h7⟩ := isIn_ok (cd_7 P)
  obtain ⟨b, h9⟩ := isBo_ok (cd_9 P)
  obtain ⟨j, t10, h10⟩ := isIn_ok (cd_10 P)
  exact ⟨_, _, x, t, i, t7, b, j, t10, _, X _ _ (cd_look P), cd_data P, cd_p P, h18, h7, h9, h10, ho, rfl, ht, by decide⟩
theorem cd_table {P : Params} {h : Heap} (X : (KK P).In h) {ps : Array Value} (ho : h.get? 780 = some (tbO ps)) : h.TableAt 784 780 ps := ⟨⟨_, _, X _ _ (cd_look P), cd_cls P, cd_data P, cd_11 P⟩, ho⟩
structure JoinAs (P : Params) (ss qs : List Str) : Prop where
  len : qs.length = ss.length
  each : ∀ i, i < ss.length → QOk P (ss.getD i "") (qs.getD i "")
  ok : JoinOk " " qs = true
  fit : (Txt.join " " qs).length ≤ sizeLine
noncomputable def joinSpec (P : Params) (vs : List V) (st : St) (k : V → St → Prop) : Prop := ∃ ss qs, vs = [.trs ss] ∧ JoinAs P ss qs ∧ k (.str (Txt.join " " qs)) st
theorem passing_all (n : Nat) : passing (fun _ => true) n 0 = List.range n := by simp [passing]

theorem smJoin (M : Model) (A : Around) (E : Value → Shared → Prop) (Q : Value × List Value → Shared → Prop) (s : Shared) (y : Str) (t : Tok) (pl : Sem Bool) (q : Q (.builtin "str.join", [.str y t]) s) : wpAny M A (getMethod (.str y t) "join" pl) Q E s :=
  GM.join q
theorem meth_const {M : Model} {A : Around} {E : Value → Shared → Prop} {s : Shared} {env : Env} {c : Const} {kk : Nat} {cp : Pos} {name : Str} {ap pos : Pos} {args : List Expr} {Q : Value → Shared → Prop}
    (hp : allPlain args = true) (hl : ap.endLine = pos.line) (hn : args.length + 1 ≤ 29)
    (h : wpAny M A (eval (.Constant c kk cp) env) (fun ov s₁ => wpAny M A (getMethod ov name (do return (← importBound (.Constant c kk cp) env).getD true)) (fun fx s₂ => wpAny M A (callWith pos fx.1 fx.2 (backTo pos (starEach args env)) (backToKw pos (keywordEach [] env))) Q E s₂) E s₁) E s) :
    wpAny M A (eval (.Call (.Attribute (.Constant c kk cp) name ap) args [] pos) env) Q E s := by
  have e2 : eval (.Call (.Attribute (.Constant c kk cp) name ap) args [] pos) env = (do
      let ov ← eval (.Constant c kk cp) env
      standAt ap.atName
      methodCall (.Constant c kk cp) name ap pos env ov (args.length + ([] : List Keyword).length) (backTo pos (starEach args env)) (backToKw pos (keywordEach [] env))) := rfl
  rw [e2]
  refine wpAny_bind (wpAny_mono h (fun ov s₁ h₁ => wpAny_bind (wpAny_standAt ?_)) fun _ _ x => x)
  unfold methodCall
  rw [form_ok (kws := []) (Bool.and_eq_true_iff.mpr ⟨hp, rfl⟩) (by simpa using hn)]
  refine wpAny_bind (wpAny_holding (wpAny_mono h₁ (fun fx s₂ h₂ => ?_) fun _ _ x => x))
  have e3 : methodCallPos true (.Constant c kk cp) env ap pos = pure pos := by
    unfold methodCallPos
    rw [hl]
    simp
  show wpAny M A (methodCallPos true (.Constant c kk cp) env ap pos >>= _) Q E s₂
  rw [e3]
  exact wpAny_bind (wpAny_pure h₂)
theorem wpAny_gen {α : Type} {M : Model} {A : Around} {m : Sem α} {Q : α → Shared → Prop} {E : Value → Shared → Prop} {s : Shared} (h : ∀ s', s' = s → wpAny M A m Q E s') : wpAny M A m Q E s := h s rfl
theorem join_eq {ss : List Str} {n : Nat} {lt : List (Str × Tok)} (e : n = ss.length)
    (h : ItemsOf (fun j y => ∃ i, (passing (fun _ => true) n 0)[j]? = some i ∧ ∃ t, y = .str (ss.getD i "") t) (strValues lt).toArray (passing (fun _ => true) n 0).length) : lt.map (·.1) = ss := by
  subst e
  rw [passing_all] at h
  have hsz : lt.length = ss.length := by
    have := h.1
    rw [List.length_range, List.size_toArray] at this
    exact (List.length_map _).symm.trans this
  refine List.ext_getElem (by rw [List.length_map, hsz]) fun j hj hj2 => ?_
  rw [List.length_map] at hj
  obtain ⟨i, hi, u, hv⟩ := h.2 j (.str lt[j].1 lt[j].2) (by rw [List.getElem?_toArray]; exact (List.getElem?_map ..).trans (congrArg (Option.map _) (List.getElem?_eq_getElem hj)))
  rw [List.getElem?_range hj2] at hi
  have hi := Option.some.inj hi
  subst hi
  rw [List.getElem_map]
  rw [List.getD_eq_getElem?_getD, List.getElem?_eq_getElem hj2] at hv
  injection hv
section
variable {prog : Program} {w : World}
theorem jn_elt {mg mb : Str → Option Value} {A : Around} {E : Value → Shared → Prop} {s : Shared} {env : Env} {m : Str → Option Value} {x z : Str} {t : Tok} {p1 p2 p3 : Pos} (hs : ScG env.scope) (hgl : env.globals = mainGlobals) (hA : A.handled = none) (hd : A.depth < recursionLimit)
    (G : Gd (KK w.params) mg mb s.heap) (hn : s.heap.Ns env.locals m) (hm : m "arg" = some (.str x t)) (hx : QOk w.params x z) :
    wpAny (model prog w) A (eval (.Call (.Name "quote" p1) [.Name "arg" p2] [] p3) env) (fun y s₃ => (∃ t, y = .str z t) ∧ Keeps s s₃) E s := by
  refine call1 (P := (KK w.params).In) (fun h X => KeepOk.of (ok_793 w.params).keep _ h X) rfl (fval := .ref 793) ?_
  refine Name_function_global hs.k (ScG.lk hs.quote) (loadGlobal_global (hgl ▸ G.g) (mg_of G.inK G.g (by kernel_rfl!)) ⟨rfl, ?_⟩) (by decide)
  exact ldG hn hm ⟨G.inK, wpAny_call (quote_any hA hd G hx fun t' h' tk hk' => ⟨⟨_, rfl⟩, _, _, rfl, hk'⟩)⟩ hs.k (ScG.lk hs.arg) (by decide)
end

section
variable {prog : Program} {w : World}
/-- the generator, made -/
theorem jn_gen {mg mb : Str → Option Value} {os₀ : Glo} {f : FD} (hf : f.Ok (KK w.params) mg mb) (hcs : f.cs = (jnI w.params).sc) (hcode : f.code = .ref 784) (hd : f.A.depth < 810) {scope : Scope} (S : ScG scope) {ss qs : List Str} (hq2 : qs.length = ss.length) (hsafe : ∀ i, i < ss.length → QOk w.params (ss.getD i "") (qs.getD i ""))
    {st : St} {ρ : Lab} {s : Shared} (hR : R w os₀ f.h₀ f.L f.outs [("split_command", .trs ss)] st ρ s) {p1 p2 p3 p4 p5 p6 : Pos} {E : Value → Shared → Prop} {Q : Value → Shared → Prop}
    (hQ : ∀ a s' fp wr G St₀, ss.length ≤ sizeLine → WalksS prog w f.A.in4 a fp wr G (passing (fun _ => true) ss.length 0).length (fun j y => ∃ i, (passing (fun _ => true) ss.length 0)[j]? = some i ∧ ∃ t, y = .str (qs.getD i "") t) St₀ →
      (∀ i s, St₀ i s → s.TypeIs (.ref a) "generator") → St₀ 0 s' → (∀ b ∈ fp, b < s'.heap.objs.size) → a ∈ fp → (∀ s'' tk, Moved wr G s' s'' → 0 < tk → R w os₀ f.h₀ f.L f.outs [("split_command", .trs ss)] st ρ { s'' with toks := tk }) → Q (.ref a) s') :
    wpAny (model prog w) f.A (eval (.GeneratorExp (.Call (.Name "quote" p1) [.Name "arg" p2] [] p3) [⟨.Name "arg" p4, .Name "split_command" p5, [], 0⟩] scope p6) f.env) Q E s := by
  refine wpAny_GeneratorExp_walksQD (cl := closL f.env.cells scope.names []) hf.handled S.co (clos_ok (by rw [S.free]; exact fun _ h => nomatch h)) S.noCell (ScG.lk S.dot) (ScG.lk S.arg) S.k (Nat.lt_of_lt_of_le hd (by decide)) ?_ (fun _ => rfl)
  refine hR.name rfl hf.kind (kindOf_of (by rw [hcs]; exact jn_name _)) (hf.loc _ (by rw [hcs, lookup_getA]; exact jn_name _)) (by decide +kernel) (v := .trs ss) (by unfold getA; rw [sEq_self]) fun val hval => ?_
  obtain ⟨l, xs, n, ⟨e, ha, hvs, hz⟩⟩ := hR.shown hval rfl
  subst e
  have hS := hvs.to_strs.1
  have hz : ss.length ≤ sizeLine := List.length_map (as := ss) _ ▸ hz
  have hL : s.heap.IsList l xs.toArray := isList_of ha
  have hlt := Heap.lt_size ha
  obtain ⟨ps, C⟩ := hR.ctOut
  have h780 := Heap.lt_size C.at_
  have hl780 : l ≠ 780 := fun e => nomatch (e ▸ ha).symm.trans C.at_
  have hxl : xs.toArray.size = ss.length := List.size_toArray.trans (hvs.length.trans (List.length_map _))
  have hlist := (Walks.list (prog := prog) (w := w) (A := f.A) hf.handled s.heap.objs.size l (Nat.ne_of_lt hlt) xs.toArray)
  refine wpAny_pyIter_list hL ⟨(hf.gd.nolimit.keeps hR.keep).push _, ?_⟩
  have hK := hf.gd.inK.keeps hR.keep
  refine wpAny_genexprCodeT (c := 784) (P := 780) (ps := ps) hcode ((cd_isCode hK C.at_ C.ok).push _) ((cd_table hK C.at_).push _) fun code h₃ tk₃ ps₃ hx₃ hc₃ ht₃ => ?_
  have up₃ : ∀ b o, b ≠ 780 → s.heap.get? b = some o → h₃.get? b = some o := fun b o hb e => hx₃ b o hb (Heap.get?_push_of_some _ e)
  have hit₃ := hlist.frame 0 _ h₃ ⟨⟨_, Heap.get?_push_size _ rfl, rfl, rfl⟩, hL.push _⟩ (fun b hb o e => hx₃ b o (by
    rcases List.mem_cons.mp hb with h | hb
    · exact h ▸ Nat.ne_of_gt h780
    · exact List.mem_singleton.mp hb ▸ hl780) e)
  refine wpAny_gen fun s₃ e₃ => ?_
  have eh : h₃ = s₃.heap := by rw [e₃]
  have eg : s₃.gens = s.gens := by rw [e₃]
  have eo : s₃.os = s.os := by rw [e₃]
  clear e₃
  subst eh
  have kh₃ : ∀ b o, f.h₀.get? b = some o → s₃.heap.get? b = some o := fun b o e => up₃ b o (fun q => nomatch (q ▸ e).symm.trans C.free) (hR.keep b o e)
  obtain ⟨bm, ob, M₀⟩ := hf.gd.bmod
  have M₃ := M₀.keeps kh₃
  have hsz₃ : s.heap.objs.size < s₃.heap.objs.size := Heap.lt_size hit₃.1.choose_spec.1
  have hfp : ∀ b ∈ [s.heap.objs.size, l], b < s₃.heap.objs.size := fun b hb => by
    rcases List.mem_cons.mp hb with h | hb
    · exact h ▸ hsz₃
    · exact List.mem_singleton.mp hb ▸ Nat.lt_trans hlt hsz₃
  refine wpAny_builtinsFor M₃.ns M₃.name M₃.ne M₃.obj M₃.cls M₃.dict M₃.data ?_
  refine ⟨s.heap.objs.size, [s.heap.objs.size, l], [s.heap.objs.size], xs.toArray.size, _, _, fun _ => true, fun i y => ∃ t, y = .str (qs.getD i "") t, rfl, (fun A' hA => Walks.list hA _ _ (Nat.ne_of_lt hlt) xs.toArray), hit₃, hfp, hf.gd.nolimit.keeps kh₃, ?_, ?_, ?_⟩
  · intro hm
    have hc : cStatics < s.heap.objs.size := let ⟨_, hn, _⟩ := hf.gd.nolimit.keeps hR.keep; hn.lt
    exact absurd (List.mem_singleton.mp hm ▸ hc) (Nat.lt_irrefl _)
  · intro href hh₃
    refine ⟨fun A₂ E₂ i v s₂ m₂ _ _ _ _ _ _ _ => wpAny_pure ⟨rfl, _, _, rfl, fun _ _ e => e⟩, fun A₂ E₂ i v s₂ m₂ hA hd₂ hu₂ hP _ hn hm hk₂ => ?_⟩
    have hP : xs.toArray[i]? = some v := hP
    have hi : i < ss.length := hxl ▸ (Array.getElem?_eq_some_iff.mp hP).1
    obtain ⟨t, ht2⟩ := StrsAre.get hS i (ss.getD i "") (by rw [List.getD_eq_getElem?_getD, List.getElem?_eq_getElem hi]; rfl)
    rw [List.getElem?_toArray, ht2] at hP
    have hv := Option.some.inj hP
    subst hv
    refine jn_elt (env := genEnv scope _ _ _ _ f.env) S rfl hA (Nat.lt_of_le_of_lt hd₂ (Nat.lt_of_lt_of_le (Nat.succ_lt_succ hd) (by decide))) (hf.gd.keeps fun b o e => hk₂ b (List.mem_range.mpr (Heap.lt_size (kh₃ b o e))) (fun hm => ?_) o (hh₃ b o (kh₃ b o e))) hn hm (hsafe _ hi)
    have h := Heap.lt_size (hR.keep _ o e)
    rw [List.mem_singleton.mp hm] at h
    exact Nat.lt_irrefl _ h
  · intro a h₅ tk gs hgb hag hsz₅ hk₅ W hat
    rw [hxl] at W hat
    refine hQ a _ _ _ _ _ hz W (fun i s' st => st.1.typeIs) hat (fun b hb => ?_) List.mem_cons_self (fun s' kk hm htk => ?_)
    · show b < h₅.objs.size
      rw [hsz₅]
      rcases List.mem_cons.mp hb with h | hb
      · exact h ▸ Nat.lt_succ_self _
      · rcases List.mem_cons.mp hb with h | hb
        · exact h ▸ Nat.lt_succ_of_lt hag
        · exact Nat.lt_succ_of_lt (Nat.lt_trans (List.mem_range.mp hb) hag)
    have up₅ : ∀ b o, b < s.heap.objs.size → s₃.heap.get? b = some o → s'.heap.get? b = some o := fun b o hb e => hm.heap b o (fun hmem => by
      rcases List.mem_cons.mp hmem with e2 | hmem
      · exact absurd (e2 ▸ hb) (Nat.lt_asymm hsz₃)
      · exact absurd (List.mem_singleton.mp hmem ▸ hb) (Nat.lt_irrefl _)) (hk₅ b o e)
    obtain ⟨o3, vs3, file, tf, flags, tg, inF, text, tt, op3, c1, c2, c3, c4, c5, c6, c7, c8, c9, c10, c11⟩ := hc₃
    exact C.back { s' with toks := kk } ps₃ (hm.os.trans eo) htk (AllBare.moved (AllBare.push (eg ▸ hR.gens) hgb) hm.gens) (fun b o hb e => up₅ b o (Heap.lt_size e) (up₃ b o hb e)) (up₅ 780 _ h780 ht₃.2) c10
theorem join_spec {X : Nat} (hX : X ≤ 800) : SpecOk prog w (KK w.params) X 785 (joinSpec w.params) := by
  refine ⟨.of (ok_785 w.params).keep, ?_⟩
  intro mg mb os₀ f hf A' hfr hh hd hu vs st k ⟨ss, qs, e, J, hk⟩ loc ρ s vals Rr hR hv q
  subst e
  refine callR (ok_785 w.params) f hf hfr hh (Nat.lt_of_lt_of_le hd (Nat.le_trans hX (by decide))) (kvs := []) (kvals := []) hR hv .nil rfl rfl ?_
  intro f' f'ok hcs hdep hun hfr' ρ₁ s₁ le₁ hR₁ back
  have e1 : fnLoc (jnI w.params) st.next [.trs ss] [] = ([("split_command", .trs ss)] : Loc) := by unfold fnLoc; rw [jn_cell]; rfl
  have e2 : fnSt (jnI w.params) st [.trs ss] [] = st := by unfold fnSt; rw [jn_cell]
  rw [e1, e2] at hR₁
  rw [jn_body]
  refine wpAny_execs_cons (wpAny_Return_some ?_)
  refine wpAny_with_toks (n := s₁.toks) (Nat.le_refl _) ?_
  refine meth_const rfl (beq_eq (jn_line w.params)) (show 1 + 1 ≤ 29 by decide) (wpAny_Constant_str (smJoin _ _ _ _ _ _ _ _ ?_))
  dsimp only
  refine callWith_of (P := fun _ => True) (by rw [star_plain (by rfl), kw_none (kws := []) rfl]; rfl) (fun h _ => ⟨.machine, .inr (.inl rfl), Looks.of_pure rfl⟩) ?_
  refine evalArgs_kw2 (kw_all (kws := []) rfl) (spliced_more ?_ (star_cons rfl)) (star_cons rfl)
  refine jn_gen f'ok hcs (hfr'.2.2.trans (jn_code _)) (hdep ▸ Nat.lt_of_lt_of_le (Nat.succ_lt_succ hd) (Nat.le_trans (Nat.succ_le_succ hX) (by decide))) (jn_scg _) J.len J.each (hR₁.toks _) fun a s' fp wr G St₀ hz W hT hat hfp hI back2 => ?_
  refine spliced_none (kwAll_nil ?_)
  rw [kw_names (kws := []) rfl]
  refine ⟨trivial, ?_⟩
  refine SC.joinGen (WalksS.in4_2 W) hT hat hfp hI (fun j v hv => let ⟨i, _, u, e⟩ := hv; ⟨_, u, e⟩) (fun s'' lt hm hacc => ?_) (by rw [passing_all, List.length_range]; exact hz)
  rw [join_eq J.len.symm hacc]
  exact ⟨J.ok, fun t' kk htk => q _ _ ρ₁ _ _ hk le₁ (back _ _ _ _ le₁ (back2 s'' kk hm (Nat.lt_of_lt_of_le hR₁.tok htk))) (.str _ _ J.fit)⟩
end
end Mine
end
section
open PySem PySem.W PyProof.Rows PySem.Calls
set_option Elab.async false
set_option maxRecDepth 100000
set_option maxHeartbeats 4000000
namespace Mine
/-! the medians of a row that isn't empty -/
noncomputable def ΓM (P : Params) : Gam where
  glob := [("sorted", .bi "sorted"), ("len", .bi "len")]
  fns := []
  plain := []
  meth := []
  prop := []
  bi := []
  ty := []
  sm := []
  cls := []
  biS := [("sorted", sortSpec), ("len", lenSpec)]
theorem ok_globM (P : Params) : globTab (KK P) (ΓM P).glob = true := by kernel_rfl!
theorem okM (prog : Program) (w : World) {X : Nat} : (ΓM w.params).Ok prog w (KK w.params) X where
  spec := fun _ _ h => by cases h
  glob := globTab_ok (ok_globM _)
  fns := fun _ h => by cases h
  plain := fun _ _ h => by cases h
  meth := fun _ _ h => by cases h
  prop := fun _ _ h => by cases h
  bi := fun _ _ h => by cases h
  ty := fun _ _ h => by cases h
  cls := fun _ _ _ h => by cases h
  sm := fun _ _ h => by cases h
  biS := fun n sp h => by
    simp only [ΓM, List.mem_cons, List.not_mem_nil, or_false] at h
    rcases h with h | h <;> cases h
    · exact sort_spec
    · exact len_spec
noncomputable abbrev mdI (P : Params) (a : Nat) : FnI := mkFn (KK P) a 1 [] [("data", .arg 0)]
noncomputable abbrev mdN (P : Params) (a : Nat) := (fdAt (KK P) a).scope.names
theorem ok_64 (P : Params) : FnOk (KK P) (mdI P 64) := fn_1 (by kernel_rfl!) (by intro S a; kernel_rfl!) (noconst1 rfl)
theorem ok_71 (P : Params) : FnOk (KK P) (mdI P 71) := fn_1 (by kernel_rfl!) (by intro S a; kernel_rfl!) (noconst1 rfl)
theorem ok_78 (P : Params) : FnOk (KK P) (mdI P 78) := fn_1 (by kernel_rfl!) (by intro S a; kernel_rfl!) (noconst1 rfl)
noncomputable abbrev mb64 (P : Params) : List Stmt := bodyOf (fdAt (KK P) 64).body
noncomputable abbrev mb71 (P : Params) : List Stmt := bodyOf (fdAt (KK P) 71).body
noncomputable abbrev mb78 (P : Params) : List Stmt := bodyOf (fdAt (KK P) 78).body
section
variable {P : Params} {d : V} {st : St} {out : List Int} {n : Int} {k : Path → Fl → Loc → St → Prop}
-- data = sorted(data)
theorem m64_0 : (run (ΓM P) 20).B (mdN P 64) [] [("data", d)] st ((mb64 P).take 1) k = sortSpec [d] st (fun v st => k [] .next [("data", v)] st) := by kernel_rfl!
theorem m71_0 : (run (ΓM P) 20).B (mdN P 71) [] [("data", d)] st ((mb71 P).take 1) k = sortSpec [d] st (fun v st => k [] .next [("data", v)] st) := by kernel_rfl!
theorem m78_0 : (run (ΓM P) 20).B (mdN P 78) [] [("data", d)] st ((mb78 P).take 1) k = sortSpec [d] st (fun v st => k [] .next [("data", v)] st) := by kernel_rfl!
-- n = len(data)
theorem m64_1 : (run (ΓM P) 20).B (mdN P 64) [] [("data", d)] st (((mb64 P).drop 1).take 1) k = lenSpec [d] st (fun v st => k [] .next [("data", d), ("n", v)] st) := by kernel_rfl!
theorem m71_1 : (run (ΓM P) 20).B (mdN P 71) [] [("data", d)] st (((mb71 P).drop 1).take 1) k = lenSpec [d] st (fun v st => k [] .next [("data", d), ("n", v)] st) := by kernel_rfl!
theorem m78_1 : (run (ΓM P) 20).B (mdN P 78) [] [("data", d)] st (((mb78 P).drop 1).take 1) k = lenSpec [d] st (fun v st => k [] .next [("data", d), ("n", v)] st) := by kernel_rfl!
-- the rest, n not 0
theorem m78_2 : (run (ΓM P) 20).B (mdN P 78) [(0, false)] [("data", .tri out), ("n", .int n)] st ((mb78 P).drop 2) k =
    ((n == 0) = false ∧ ((0 ≤ n.fdiv 2 ∧ n.fdiv 2 < (out.length : Int)) ∧ k [] (.ret (.int (getN 0 (n.fdiv 2).toNat out))) [("data", .tri out), ("n", .int n)] st)) := by kernel_rfl!
theorem m71_2o : (run (ΓM P) 20).B (mdN P 71) [(0, false), (0, true)] [("data", .tri out), ("n", .int n)] st ((mb71 P).drop 2) k =
    ((n == 0) = false ∧ ((n.fmod 2 == 1) = true ∧ ((0 ≤ n.fdiv 2 ∧ n.fdiv 2 < (out.length : Int)) ∧ k [] (.ret (.int (getN 0 (n.fdiv 2).toNat out))) [("data", .tri out), ("n", .int n)] st))) := by kernel_rfl!
theorem m71_2e : (run (ΓM P) 20).B (mdN P 71) [(0, false), (0, false)] [("data", .tri out), ("n", .int n)] st ((mb71 P).drop 2) k =
    ((n == 0) = false ∧ ((n.fmod 2 == 1) = false ∧ ((0 ≤ n.fdiv 2 - 1 ∧ n.fdiv 2 - 1 < (out.length : Int)) ∧ k [] (.ret (.int (getN 0 (n.fdiv 2 - 1).toNat out))) [("data", .tri out), ("n", .int n)] st))) := by kernel_rfl!
theorem m64_2o : (run (ΓM P) 20).B (mdN P 64) [(0, false), (0, true)] [("data", .tri out), ("n", .int n)] st ((mb64 P).drop 2) k =
    ((n == 0) = false ∧ ((n.fmod 2 == 1) = true ∧ ((0 ≤ n.fdiv 2 ∧ n.fdiv 2 < (out.length : Int)) ∧ k [] (.ret (.int (getN 0 (n.fdiv 2).toNat out))) [("data", .tri out), ("n", .int n)] st))) := by kernel_rfl!
noncomputable def halfI (a : Int) : V := .flt (Float64.ofFrac (decide (a < 0) != decide ((2 : Int) < 0)) a.natAbs (2 : Int).natAbs)
noncomputable def fineHalf (a : Int) : Prop := Float64.isInf (Float64.ofFrac (decide (a < 0) != decide ((2 : Int) < 0)) a.natAbs (2 : Int).natAbs) = false
theorem m64_2e : (run (ΓM P) 20).B (mdN P 64) [(0, false), (0, false)] [("data", .tri out), ("n", .int n)] st ((mb64 P).drop 2) k =
    ((n == 0) = false ∧ ((n.fmod 2 == 1) = false ∧ ((0 ≤ n.fdiv 2 - 1 ∧ n.fdiv 2 - 1 < (out.length : Int)) ∧ ((0 ≤ n.fdiv 2 ∧ n.fdiv 2 < (out.length : Int)) ∧
      (fineHalf (getN 0 (n.fdiv 2 - 1).toNat out + getN 0 (n.fdiv 2).toNat out) ∧ k [] (.ret (halfI (getN 0 (n.fdiv 2 - 1).toNat out + getN 0 (n.fdiv 2).toNat out))) [("data", .tri out), ("n", .int n), ("i", .int (n.fdiv 2))] st))))) := by kernel_rfl!
end
end Mine
end
section
open PySem PySem.W PyProof.Rows PySem.Calls
set_option Elab.async false
set_option maxRecDepth 100000
set_option maxHeartbeats 4000000
namespace Mine
noncomputable def loI (out : List Int) : Int := if out.length % 2 = 1 then getN 0 (out.length / 2) out else getN 0 (out.length / 2 - 1) out
noncomputable def hiI (out : List Int) : Int := getN 0 (out.length / 2) out
noncomputable def sumI (out : List Int) : Int := getN 0 (out.length / 2 - 1) out + getN 0 (out.length / 2) out
noncomputable def midV (out : List Int) : V := if out.length % 2 = 1 then .int (getN 0 (out.length / 2) out) else halfI (sumI out)
theorem fdiv2 (n : Nat) : (n : Int).fdiv 2 = ((n / 2 : Nat) : Int) := by
  rw [Int.fdiv_eq_ediv_of_nonneg _ (by decide)]; omega
theorem fmod2 (n : Nat) : (n : Int).fmod 2 = ((n % 2 : Nat) : Int) := by
  rw [Int.fmod_eq_emod_of_nonneg _ (by decide)]; omega
section
variable {prog : Program} {w : World} {mg mb : Str → Option Value} {os₀ : Glo} {f : FD}
theorem tbm {a : Nat} (hf : f.Ok (KK w.params) mg mb) (hcs : f.cs = (fdAt (KK w.params) a).scope) (hd : f.A.depth < 850) (hu : f.A.units < 8600) {p : Path} {b : List Stmt} {loc : Loc} {st : St} {k : Fl → Loc → St → Prop}
    (h : (run (ΓM w.params) 20).B (mdN w.params a) p loc st b (fun _ => k)) : TB prog w os₀ f b loc st k :=
  TB.of_run (X := 900) (n := 20) (by omega) (okM prog w) hf (by omega) (by omega) (by rw [hcs]; exact h)
theorem split3 (b : List Stmt) : b = b.take 1 ++ ((b.drop 1).take 1 ++ b.drop 2) := by
  have : b.drop 2 = (b.drop 1).drop 1 := by rw [List.drop_drop]
  rw [this, List.take_append_drop, List.take_append_drop]
theorem md_start {a : Nat} (hf : f.Ok (KK w.params) mg mb) (hcs : f.cs = (fdAt (KK w.params) a).scope) (hd : f.A.depth < 850) (hu : f.A.units < 8600)
    (e0 : ∀ (d : V) (st : St) (k : Path → Fl → Loc → St → Prop), (run (ΓM w.params) 20).B (mdN w.params a) [] [("data", d)] st ((bodyOf (fdAt (KK w.params) a).body).take 1) k = sortSpec [d] st (fun v st => k [] .next [("data", v)] st))
    (e1 : ∀ (d : V) (st : St) (k : Path → Fl → Loc → St → Prop), (run (ΓM w.params) 20).B (mdN w.params a) [] [("data", d)] st (((bodyOf (fdAt (KK w.params) a).body).drop 1).take 1) k = lenSpec [d] st (fun v st => k [] .next [("data", d), ("n", v)] st))
    {d : V} {st : St} {ns : List Int} (hn : numsOf st d = some ns) (hz : ns.length < 64) {k : Fl → Loc → St → Prop}
    (h : TB prog w os₀ f ((bodyOf (fdAt (KK w.params) a).body).drop 2) [("data", .tri (sortI ns)), ("n", .int ((sortI ns).length : Int))] st k) :
    TB prog w os₀ f (bodyOf (fdAt (KK w.params) a).body) [("data", d)] st k := by
  rw [split3 (bodyOf (fdAt (KK w.params) a).body)]
  refine TB.append (tbm (a := a) hf hcs hd hu (p := []) (Eq.mpr (e0 _ _ _) ⟨d, ns, sortI ns, rfl, hn, hz, sortI_perm ns, sortI_rises ns, ?_⟩))
  refine TB.append (tbm (a := a) hf hcs hd hu (p := []) (Eq.mpr (e1 _ _ _) ⟨_, _, rfl, rfl, ?_⟩))
  simpa using h
theorem sortI_len (ns : List Int) : (sortI ns).length = ns.length := (sortI_perm ns).length_eq
theorem md78 (hf : f.Ok (KK w.params) mg mb) (hcs : f.cs = (fdAt (KK w.params) 78).scope) (hd : f.A.depth < 850) (hu : f.A.units < 8600) {d : V} {st : St} {ns : List Int} (hn : numsOf st d = some ns) (hz : ns.length < 64) (h0 : ns ≠ []) :
    TB prog w os₀ f (mb78 w.params) [("data", d)] st (fun fl _ st' => fl = .ret (.int (hiI (sortI ns))) ∧ st' = st) := by
  have hl : 0 < (sortI ns).length := by rw [sortI_len]; exact List.length_pos_iff.mpr h0
  refine md_start hf hcs hd hu (fun _ _ _ => m78_0) (fun _ _ _ => m78_1) hn hz (tbm hf hcs hd hu (Eq.mpr m78_2 ⟨?_, ⟨?_, ?_⟩, ?_, rfl⟩))
  · simp only [beq_eq_false_iff_ne]; omega
  · rw [fdiv2]; omega
  · rw [fdiv2]; omega
  · rw [fdiv2]; rfl
theorem md71 (hf : f.Ok (KK w.params) mg mb) (hcs : f.cs = (fdAt (KK w.params) 71).scope) (hd : f.A.depth < 850) (hu : f.A.units < 8600) {d : V} {st : St} {ns : List Int} (hn : numsOf st d = some ns) (hz : ns.length < 64) (h0 : ns ≠ []) :
    TB prog w os₀ f (mb71 w.params) [("data", d)] st (fun fl _ st' => fl = .ret (.int (loI (sortI ns))) ∧ st' = st) := by
  have hl : 0 < (sortI ns).length := by rw [sortI_len]; exact List.length_pos_iff.mpr h0
  by_cases ho : (sortI ns).length % 2 = 1
  · refine md_start hf hcs hd hu (fun _ _ _ => m71_0) (fun _ _ _ => m71_1) hn hz (tbm hf hcs hd hu (Eq.mpr m71_2o ⟨?_, ?_, ⟨?_, ?_⟩, ?_, rfl⟩))
    · simp only [beq_eq_false_iff_ne]; omega
    · rw [fmod2, ho]; rfl
    · rw [fdiv2]; omega
    · rw [fdiv2]; omega
    · rw [fdiv2]; unfold loI; rw [if_pos ho]; rfl
  · refine md_start hf hcs hd hu (fun _ _ _ => m71_0) (fun _ _ _ => m71_1) hn hz (tbm hf hcs hd hu (Eq.mpr m71_2e ⟨?_, ?_, ⟨?_, ?_⟩, ?_, rfl⟩))
    · simp only [beq_eq_false_iff_ne]; omega
    · rw [fmod2]; simp only [beq_eq_false_iff_ne]; omega
    · rw [fdiv2]; omega
    · rw [fdiv2]; omega
    · rw [fdiv2]; unfold loI; rw [if_neg ho]
      have : (((sortI ns).length / 2 : Nat) : Int) - 1 = (((sortI ns).length / 2 - 1 : Nat) : Int) := by omega
      rw [this]; rfl
theorem md64 (hf : f.Ok (KK w.params) mg mb) (hcs : f.cs = (fdAt (KK w.params) 64).scope) (hd : f.A.depth < 850) (hu : f.A.units < 8600) {d : V} {st : St} {ns : List Int} (hn : numsOf st d = some ns) (hz : ns.length < 64) (h0 : ns ≠ [])
    (hfin : (sortI ns).length % 2 = 1 ∨ fineHalf (sumI (sortI ns))) :
    TB prog w os₀ f (mb64 w.params) [("data", d)] st (fun fl _ st' => fl = .ret (midV (sortI ns)) ∧ st' = st) := by
  have hl : 0 < (sortI ns).length := by rw [sortI_len]; exact List.length_pos_iff.mpr h0
  by_cases ho : (sortI ns).length % 2 = 1
  · refine md_start hf hcs hd hu (fun _ _ _ => m64_0) (fun _ _ _ => m64_1) hn hz (tbm hf hcs hd hu (Eq.mpr m64_2o ⟨?_, ?_, ⟨?_, ?_⟩, ?_, rfl⟩))
    · simp only [beq_eq_false_iff_ne]; omega
    · rw [fmod2, ho]; rfl
    · rw [fdiv2]; omega
    · rw [fdiv2]; omega
    · rw [fdiv2]; unfold midV; rw [if_pos ho]; rfl
  · have hfin := hfin.resolve_left ho
    have e1 : (((sortI ns).length / 2 : Nat) : Int) - 1 = (((sortI ns).length / 2 - 1 : Nat) : Int) := by omega
    refine md_start hf hcs hd hu (fun _ _ _ => m64_0) (fun _ _ _ => m64_1) hn hz (tbm hf hcs hd hu (Eq.mpr m64_2e ⟨?_, ?_, ⟨?_, ?_⟩, ⟨?_, ?_⟩, ?_, ?_, rfl⟩))
    · simp only [beq_eq_false_iff_ne]; omega
    · rw [fmod2]; simp only [beq_eq_false_iff_ne]; omega
    · rw [fdiv2]; omega
    · rw [fdiv2]; omega
    · rw [fdiv2]; omega
    · rw [fdiv2]; omega
    · rw [fdiv2, e1]; exact hfin
    · rw [fdiv2, e1]; unfold midV; rw [if_neg ho]; rfl
end
end Mine
end
section
open PySem PySem.W PyProof.Rows PySem.Calls
set_option Elab.async false
set_option maxRecDepth 100000
set_option maxHeartbeats 4000000
namespace Mine
noncomputable def clsMroNe (K : Frag) (C : Addr) : Bool := match K.lookup C with
  | some ⟨_, _, .cls cd, _⟩ => !cd.mro.isEmpty
  | _ => false
theorem clsMroNe_ok {K : Frag} {C : Addr} (h : clsMroNe K C = true) : ∃ oc od cd sl, K.lookup C = some ⟨oc, od, .cls cd, sl⟩ ∧ cd.mro.isEmpty = false := by
  unfold clsMroNe at h
  split at h
  · rename_i oc od cd sl e
    exact ⟨_, _, _, _, e, by simpa using h⟩
  · cases h
noncomputable def objAt (K : Frag) (a : Addr) : Obj := (K.lookup a).getD { cls := .none, data := .plain }
noncomputable def clsAt (K : Frag) (a : Addr) : ClassData := match (objAt K a).data with
  | .cls cd => cd
  | _ => default
noncomputable def ifBody (b : List Stmt) : List Stmt := subS (sI 0 b)
theorem noCell_ok {l : List (Str × NameKind)} (h : (l.all fun x => match x.2 with | .cell => false | _ => true) = true) : ∀ x ∈ l, x.2 ≠ .cell := by
  intro x hx e
  have := List.all_eq_true.mp h x hx
  rw [e] at this; cases this
theorem nwo (P : Params) : NewOwn (KK P) 631 124 401 where
  keep := by kernel_rfl!
  init := by kernel_rfl!
  ifn := by kernel_rfl!
  made := by intro S; kernel_rfl!
  self := by kernel_rfl!
  call := by kernel_rfl!
  typ := by kernel_rfl!
  got := ⟨.type "type", 128, [], by kernel_rfl!, by kernel_rfl!, by kernel_rfl!, by kernel_rfl!⟩
  mro := clsMroNe_ok (by kernel_rfl!)
  new := by
    intro mg mb prog w A' s v Rr G hd q
    refine newfn (oc := (objAt (KK P) 631).cls) (od := (objAt (KK P) 631).dict) (cd := clsAt (KK P) 631) (sl := (objAt (KK P) 631).slots) (oB := objAt (KK P) 384) (fo := objAt (KK P) 124) (fd := fdAt (KK P) 124) (body := bodyOf (fdAt (KK P) 124).body) (B := 384) (nA := "BytesIO") (nB := "StringIO")
      (p1 := ⟨54, 11, 54, 14⟩) (p2 := ⟨54, 22, 54, 29⟩) (p3 := ⟨54, 11, 54, 29⟩) (p4 := ⟨54, 34, 54, 37⟩) (p5 := ⟨54, 45, 54, 53⟩) (p6 := ⟨54, 34, 54, 53⟩) (p7 := ⟨54, 11, 54, 53⟩) (p8 := ⟨54, 8, 55, 20⟩) (p9 := ⟨56, 30, 56, 33⟩) (p10 := ⟨56, 15, 56, 21⟩) (p11 := ⟨56, 15, 56, 29⟩) (p12 := ⟨56, 15, 56, 34⟩) (p13 := ⟨56, 8, 56, 34⟩)
      (tb := ifBody (bodyOf (fdAt (KK P) 124).body)) G hd (by kernel_rfl!) ?_ (by kernel_rfl!) (by kernel_rfl!) (by intro S; kernel_rfl!) (by intro S; kernel_rfl!) (by kernel_rfl!) (by kernel_rfl!) (by kernel_rfl!) (by decide) (by kernel_rfl!) (by kernel_rfl!) (by kernel_rfl!) (by kernel_rfl!) (by kernel_rfl!) (by kernel_rfl!) (by kernel_rfl!) (by kernel_rfl!) ?_ (by kernel_rfl!) (by kernel_rfl!) (by kernel_rfl!) ?_ (by kernel_rfl!) (by kernel_rfl!) (by kernel_rfl!) (by kernel_rfl!) (by kernel_rfl!) (by kernel_rfl!) (by decide) (by decide) (by kernel_rfl!) (by rfl) (by kernel_rfl!) q
    · rw [show (objAt (KK P) 631).cls = .type "type" by kernel_rfl!]
      exact fun e => absurd (Value.type.inj e) (by decide)
    · exact noCell_ok (by kernel_rfl!)
    · intro x hx
      simp only [List.mem_cons, List.not_mem_nil, or_false] at hx
      rcases hx with rfl | rfl | rfl <;> kernel_rfl!
theorem mkx (P : Params) : MakesOk (KK P) 766 690 false := makes_cls (by kernel_rfl!) (by kernel_rfl!) (by kernel_rfl!) (by kernel_rfl!)
theorem mks (P : Params) : MakesOk (KK P) 631 401 true := makes_own (nwo P)
noncomputable def fn401 (P : Params) : FnI := mkFn (KK P) 401 2 [] [("self", .arg 0), ("initial_value", .arg 1), ("newline", .const (.str "\n") (.str "\n" 801))]
noncomputable def fn690 (P : Params) : FnI := mkFn (KK P) 690 2 ["posix"] [("self", .arg 0), ("instream", .arg 1), ("infile", .const .none .none), ("posix", .kw 0), ("punctuation_chars", .const (.bool false) (.bool false))]
theorem ok_401 (P : Params) : FnOk (KK P) (fn401 P) := fn_2 (by kernel_rfl!) (by intro S a b; kernel_rfl!) (by
  intro b hb
  simp only [List.mem_cons, List.not_mem_nil, or_false] at hb
  rcases hb with rfl | rfl | rfl
  · trivial
  · trivial
  · exact fun ρ => .str _ _ (by rw [sizeLine_eq]; decide +kernel))
theorem ok_690 (P : Params) : FnOk (KK P) (fn690 P) := fn_2k (by kernel_rfl!) (by intro S a b c; kernel_rfl!) (by
  intro b hb
  simp only [List.mem_cons, List.not_mem_nil, or_false] at hb
  rcases hb with rfl | rfl | rfl | rfl | rfl
  · trivial
  · trivial
  · exact fun ρ => .none
  · trivial
  · exact fun ρ => .bool _)
noncomputable def ΓB (P : Params) : Gam := { ΓA P with fns := fn401 P :: fn690 P :: (ΓA P).fns, cls := [(631, 401, true), (766, 690, false)] }
theorem okB (prog : Program) (w : World) (X : Nat) : (ΓB w.params).Ok prog w (KK w.params) X :=
  { okA prog w X with
    fns := fun i hi => by
      rcases List.mem_cons.mp hi with rfl | hi
      · exact ok_401 _
      · rcases List.mem_cons.mp hi with rfl | hi
        · exact ok_690 _
        · exact fnA _ i hi
    cls := fun C fI one h => by
      simp only [ΓB, List.mem_cons, List.not_mem_nil, or_false] at h
      rcases h with h | h <;> cases h
      · exact mks _
      · exact mkx _ }
end Mine
end
section
open PySem PySem.W PyProof.Rows PySem.Calls
set_option Elab.async false
set_option maxRecDepth 100000
set_option maxHeartbeats 4000000
namespace Mine
noncomputable def fn585 (P : Params) : FnI := mkFn (KK P) 585 1 [] [("self", .arg 0), ("size", .const (.int (-1)) (.int (-1) 1005))]
noncomputable def fn429 (P : Params) : FnI := mkFn (KK P) 429 2 [] [("self", .arg 0), ("limit", .arg 1)]
theorem ok_585 (P : Params) : FnOk (KK P) (fn585 P) := fn_1 (by kernel_rfl!) (by intro S a; kernel_rfl!) (by
  intro b hb
  simp only [List.mem_cons, List.not_mem_nil, or_false] at hb
  rcases hb with rfl | rfl
  · trivial
  · exact fun ρ => .int _ _)
theorem ok_429 (P : Params) : FnOk (KK P) (fn429 P) := fn_2 (by kernel_rfl!) (by intro S a b; kernel_rfl!) (noconst1 rfl)
noncomputable def ΓC (P : Params) : Gam := { ΓB P with
  fns := fn585 P :: fn429 P :: (ΓB P).fns
  meth := [(631, [("read", 577), ("_StringIO__check", 415), ("_StringIO__translated", 408), ("readline", 585), ("_StringIO__line", 429)])]
  bi := ("str.find", biFind) :: (ΓB P).bi
  sm := [("find", "str.find")] }
theorem ok_methC (P : Params) : methTab (KK P) (ΓC P).meth = true := by kernel_rfl!
theorem okC (prog : Program) (w : World) (X : Nat) : (ΓC w.params).Ok prog w (KK w.params) X :=
  { okB prog w X with
    fns := fun i hi => by
      rcases List.mem_cons.mp hi with rfl | hi
      · exact ok_585 _
      · rcases List.mem_cons.mp hi with rfl | hi
        · exact ok_429 _
        · exact (okB prog w X).fns i hi
    meth := methTab_ok (ok_methC _)
    bi := fun n g h => by
      rcases List.mem_cons.mp h with h | h
      · cases h; exact biFind_ok
      · exact (okB prog w X).bi n g h
    sm := fun x n h => by
      simp only [ΓC, List.mem_cons, List.not_mem_nil, or_false] at h
      cases h
      exact smFind }
noncomputable def rtBody (P : Params) : List Stmt := bodyOf (fdAt (KK P) 734).body
noncomputable def whileBody (b : List Stmt) : List Stmt := subS (sI 2 b)
noncomputable def wcS : Str := Str.ofString "abcdfeghijklmnopqrstuvwxyzABCDEFGHIJKLMNOPQRSTUVWXYZ0123456789_" ++ Str.ofString "ßàáâãäåæçèéêëìíîïðñòóôõöøùúûüýþÿÀÁÂÃÄÅÆÇÈÉÊËÌÍÎÏÐÑÒÓÔÕÖØÙÚÛÜÝÞ"
noncomputable def sioO (buf : Str) (pos : Int) : O := .inst 631 [("_StringIO__newline", .str "\n"), ("_StringIO__buf", .str buf), ("_StringIO__pos", .int pos)]
noncomputable def lexO (com : Str) (state : V) (token : Str) (ln : Int) : O := .inst 766 [("instream", .ref 1), ("infile", .none), ("posix", .bool true), ("eof", .none), ("commenters", .str com), ("wordchars", .str wcS), ("whitespace", .str " \t\r\n"), ("whitespace_split", .bool true), ("quotes", .str "'\""), ("escape", .str "\\"), ("escapedquotes", .str "\""), ("state", state), ("pushback", .ref 2), ("lineno", .int ln), ("debug", .int 0), ("token", .str token), ("filestack", .ref 3), ("source", .none), ("_punctuation_chars", .str "")]
noncomputable def lexS (com : Str) (state : V) (token : Str) (ln : Int) (buf : Str) (pos : Int) (_rest : List (Addr × Obj)) : St := ⟨[(3, .dq), (2, .dq), (1, sioO buf pos), (0, lexO com state token ln)], 4⟩
end Mine
end
section
open PySem PySem.W PyProof.Rows PySem.Calls
set_option Elab.async false
set_option maxRecDepth 100000
set_option maxHeartbeats 4000000
set_option linter.unusedVariables false
namespace Mine
theorem kcast {a b : Prop} (h : b) (e : a = b) : a := e ▸ h
section
variable {P : Params} {c : Nat} {q : Bool} {old state : V} {com token : Str} {ln : Int} {buf : Str} {pos : Int} {rest : List (Addr × Obj)} {k : Path → Fl → Loc → St → Prop}
noncomputable abbrev rtN (P : Params) := (fdAt (KK P) 734).scope.names
theorem rt_R1 (h0 : decide ((buf.length : Int) ≤ pos) = false) (h1 : decide (pos + 1 < (buf.length : Int)) = true) (hk : k [] .next [("self", .ref 0), ("quoted", .bool q), ("escapedstate", .str " "), ("nextchar", .str (Txt.slice buf (some pos) (some (pos + 1))))] (lexS com state token ln buf (pos + 1) rest)) :
    (run (ΓC P) 40).B (rtN P) [(6, false), (1, true)] [("self", .ref 0), ("quoted", .bool q), ("escapedstate", .str " ")] (lexS com state token ln buf pos rest) ((whileBody (rtBody P)).take 1) k := kcast (And.intro h0 (And.intro h1 hk)) (by kernel_rfl!)
theorem rt_R2 (h0 : decide ((buf.length : Int) ≤ pos) = false) (h1 : decide (pos + 1 < (buf.length : Int)) = false) (hk : k [] .next [("self", .ref 0), ("quoted", .bool q), ("escapedstate", .str " "), ("nextchar", .str (Txt.slice buf (some pos) (some (buf.length : Int))))] (lexS com state token ln buf (buf.length : Int) rest)) :
    (run (ΓC P) 40).B (rtN P) [(6, false), (1, false)] [("self", .ref 0), ("quoted", .bool q), ("escapedstate", .str " ")] (lexS com state token ln buf pos rest) ((whileBody (rtBody P)).take 1) k := kcast (And.intro h0 (And.intro h1 hk)) (by kernel_rfl!)
theorem rt_R3 (h0 : decide ((buf.length : Int) ≤ pos) = true) (hk : k [] .next [("self", .ref 0), ("quoted", .bool q), ("escapedstate", .str " "), ("nextchar", .str "")] (lexS com state token ln buf pos rest)) :
    (run (ΓC P) 40).B (rtN P) [(6, true)] [("self", .ref 0), ("quoted", .bool q), ("escapedstate", .str " ")] (lexS com state token ln buf pos rest) ((whileBody (rtBody P)).take 1) k := kcast (And.intro h0 hk) (by kernel_rfl!)
theorem rt_R1n (h0 : decide ((buf.length : Int) ≤ pos) = false) (h1 : decide (pos + 1 < (buf.length : Int)) = true) (hk : k [] .next [("self", .ref 0), ("quoted", .bool q), ("escapedstate", .str " "), ("nextchar", .str (Txt.slice buf (some pos) (some (pos + 1))))] (lexS com state token ln buf (pos + 1) rest)) :
    (run (ΓC P) 40).B (rtN P) [(6, false), (1, true)] [("self", .ref 0), ("quoted", .bool q), ("escapedstate", .str " "), ("nextchar", old)] (lexS com state token ln buf pos rest) ((whileBody (rtBody P)).take 1) k := kcast (And.intro h0 (And.intro h1 hk)) (by kernel_rfl!)
theorem rt_R2n (h0 : decide ((buf.length : Int) ≤ pos) = false) (h1 : decide (pos + 1 < (buf.length : Int)) = false) (hk : k [] .next [("self", .ref 0), ("quoted", .bool q), ("escapedstate", .str " "), ("nextchar", .str (Txt.slice buf (some pos) (some (buf.length : Int))))] (lexS com state token ln buf (buf.length : Int) rest)) :
    (run (ΓC P) 40).B (rtN P) [(6, false), (1, false)] [("self", .ref 0), ("quoted", .bool q), ("escapedstate", .str " "), ("nextchar", old)] (lexS com state token ln buf pos rest) ((whileBody (rtBody P)).take 1) k := kcast (And.intro h0 (And.intro h1 hk)) (by kernel_rfl!)
theorem rt_R3n (h0 : decide ((buf.length : Int) ≤ pos) = true) (hk : k [] .next [("self", .ref 0), ("quoted", .bool q), ("escapedstate", .str " "), ("nextchar", .str "")] (lexS com state token ln buf pos rest)) :
    (run (ΓC P) 40).B (rtN P) [(6, true)] [("self", .ref 0), ("quoted", .bool q), ("escapedstate", .str " "), ("nextchar", old)] (lexS com state token ln buf pos rest) ((whileBody (rtBody P)).take 1) k := kcast (And.intro h0 hk) (by kernel_rfl!)
theorem rt_sp_blank  (hk : k [] .cont [("self", .ref 0), ("quoted", .bool false), ("escapedstate", .str " "), ("nextchar", .str ⟨#[32]⟩)] (lexS com (.str " ") "" ln buf pos rest)) :
    (run (ΓC P) 40).B (rtN P) [] [("self", .ref 0), ("quoted", .bool false), ("escapedstate", .str " "), ("nextchar", .str ⟨#[32]⟩)] (lexS com (.str " ") "" ln buf pos rest) ((whileBody (rtBody P)).drop 1) k := kcast hk (by kernel_rfl!)
theorem rt_sp_com (h0 : decide ((buf.length : Int) ≤ pos) = false) (h1 : decide (0 ≤ find4 buf (Str.ofString "\n") pos (buf.length : Int)) = false) (hk : k [] .next [("self", .ref 0), ("quoted", .bool false), ("escapedstate", .str " "), ("nextchar", .str ⟨#[35]⟩)] (lexS "#" (.str " ") "" (ln + 1) buf (buf.length : Int) rest)) :
    (run (ΓC P) 40).B (rtN P) [(12, false), (4, false)] [("self", .ref 0), ("quoted", .bool false), ("escapedstate", .str " "), ("nextchar", .str ⟨#[35]⟩)] (lexS "#" (.str " ") "" ln buf pos rest) ((whileBody (rtBody P)).drop 1) k := kcast (And.intro h0 (And.intro h1 hk)) (by kernel_rfl!)
theorem rt_sp_com0 (h0 : decide ((buf.length : Int) ≤ pos) = true) (hk : k [] .next [("self", .ref 0), ("quoted", .bool false), ("escapedstate", .str " "), ("nextchar", .str ⟨#[35]⟩)] (lexS "#" (.str " ") "" (ln + 1) buf pos rest)) :
    (run (ΓC P) 40).B (rtN P) [(12, true)] [("self", .ref 0), ("quoted", .bool false), ("escapedstate", .str " "), ("nextchar", .str ⟨#[35]⟩)] (lexS "#" (.str " ") "" ln buf pos rest) ((whileBody (rtBody P)).drop 1) k := kcast (And.intro h0 hk) (by kernel_rfl!)
theorem rt_sp_sq (h0 : memN 39 com.cps.toList = false) (hk : k [] .next [("self", .ref 0), ("quoted", .bool false), ("escapedstate", .str " "), ("nextchar", .str ⟨#[39]⟩)] (lexS com (.str ⟨#[39]⟩) "" ln buf pos rest)) :
    (run (ΓC P) 40).B (rtN P) [(6, false)] [("self", .ref 0), ("quoted", .bool false), ("escapedstate", .str " "), ("nextchar", .str ⟨#[39]⟩)] (lexS com (.str " ") "" ln buf pos rest) ((whileBody (rtBody P)).drop 1) k := kcast (And.intro h0 hk) (by kernel_rfl!)
theorem rt_sp_dq (h0 : memN 34 com.cps.toList = false) (hk : k [] .next [("self", .ref 0), ("quoted", .bool false), ("escapedstate", .str " "), ("nextchar", .str ⟨#[34]⟩)] (lexS com (.str ⟨#[34]⟩) "" ln buf pos rest)) :
    (run (ΓC P) 40).B (rtN P) [(6, false)] [("self", .ref 0), ("quoted", .bool false), ("escapedstate", .str " "), ("nextchar", .str ⟨#[34]⟩)] (lexS com (.str " ") "" ln buf pos rest) ((whileBody (rtBody P)).drop 1) k := kcast (And.intro h0 hk) (by kernel_rfl!)
theorem rt_sp_word (h0 : sEq ⟨#[c]⟩ (Str.ofString "\n") = false) (h1 : memN c (Str.ofString " \t\r\n").cps.toList = false) (h2 : memN c com.cps.toList = false) (h3 : memN c (Str.ofString "\\").cps.toList = false) (h4 : memN c wcS.cps.toList = true) (hk : k [] .next [("self", .ref 0), ("quoted", .bool false), ("escapedstate", .str " "), ("nextchar", .str ⟨#[c]⟩)] (lexS com (.str "a") ⟨#[c]⟩ ln buf pos rest)) :
    (run (ΓC P) 40).B (rtN P) [(0, false), (4, false), (0, false), (1, false), (0, true)] [("self", .ref 0), ("quoted", .bool false), ("escapedstate", .str " "), ("nextchar", .str ⟨#[c]⟩)] (lexS com (.str " ") "" ln buf pos rest) ((whileBody (rtBody P)).drop 1) k := kcast (And.intro h0 (And.intro h1 (And.intro h2 (And.intro h3 (And.intro h4 hk))))) (by kernel_rfl!)
theorem rt_sp_other (h0 : sEq ⟨#[c]⟩ (Str.ofString "\n") = false) (h1 : memN c (Str.ofString " \t\r\n").cps.toList = false) (h2 : memN c com.cps.toList = false) (h3 : memN c (Str.ofString "\\").cps.toList = false) (h4 : memN c wcS.cps.toList = false) (h5 : memN c (Str.ofString "'\"").cps.toList = false) (hk : k [] .next [("self", .ref 0), ("quoted", .bool false), ("escapedstate", .str " "), ("nextchar", .str ⟨#[c]⟩)] (lexS com (.str "a") ⟨#[c]⟩ ln buf pos rest)) :
    (run (ΓC P) 40).B (rtN P) [(0, false), (4, false), (0, false), (1, false), (0, false), (1, false)] [("self", .ref 0), ("quoted", .bool false), ("escapedstate", .str " "), ("nextchar", .str ⟨#[c]⟩)] (lexS com (.str " ") "" ln buf pos rest) ((whileBody (rtBody P)).drop 1) k := kcast (And.intro h0 (And.intro h1 (And.intro h2 (And.intro h3 (And.intro h4 (And.intro h5 hk)))))) (by kernel_rfl!)
theorem rt_sp_eof  (hk : k [] .brk [("self", .ref 0), ("quoted", .bool false), ("escapedstate", .str " "), ("nextchar", .str "")] (lexS com .none "" ln buf pos rest)) :
    (run (ΓC P) 40).B (rtN P) [] [("self", .ref 0), ("quoted", .bool false), ("escapedstate", .str " "), ("nextchar", .str "")] (lexS com (.str " ") "" ln buf pos rest) ((whileBody (rtBody P)).drop 1) k := kcast hk (by kernel_rfl!)
theorem rt_a_blank1 (h0 : ((token.length : Int) != 0) = true) (hk : k [] .brk [("self", .ref 0), ("quoted", .bool q), ("escapedstate", .str " "), ("nextchar", .str ⟨#[32]⟩)] (lexS com (.str " ") token ln buf pos rest)) :
    (run (ΓC P) 40).B (rtN P) [(10, true)] [("self", .ref 0), ("quoted", .bool q), ("escapedstate", .str " "), ("nextchar", .str ⟨#[32]⟩)] (lexS com (.str "a") token ln buf pos rest) ((whileBody (rtBody P)).drop 1) k := kcast (And.intro h0 hk) (by kernel_rfl!)
theorem rt_a_blank2  (hk : k [] .brk [("self", .ref 0), ("quoted", .bool true), ("escapedstate", .str " "), ("nextchar", .str ⟨#[32]⟩)] (lexS com (.str " ") "" ln buf pos rest)) :
    (run (ΓC P) 40).B (rtN P) [] [("self", .ref 0), ("quoted", .bool true), ("escapedstate", .str " "), ("nextchar", .str ⟨#[32]⟩)] (lexS com (.str "a") "" ln buf pos rest) ((whileBody (rtBody P)).drop 1) k := kcast hk (by kernel_rfl!)
theorem rt_a_sq (h0 : memN 39 com.cps.toList = false) (hk : k [] .next [("self", .ref 0), ("quoted", .bool q), ("escapedstate", .str " "), ("nextchar", .str ⟨#[39]⟩)] (lexS com (.str ⟨#[39]⟩) token ln buf pos rest)) :
    (run (ΓC P) 40).B (rtN P) [(9, false)] [("self", .ref 0), ("quoted", .bool q), ("escapedstate", .str " "), ("nextchar", .str ⟨#[39]⟩)] (lexS com (.str "a") token ln buf pos rest) ((whileBody (rtBody P)).drop 1) k := kcast (And.intro h0 hk) (by kernel_rfl!)
theorem rt_a_dq (h0 : memN 34 com.cps.toList = false) (hk : k [] .next [("self", .ref 0), ("quoted", .bool q), ("escapedstate", .str " "), ("nextchar", .str ⟨#[34]⟩)] (lexS com (.str ⟨#[34]⟩) token ln buf pos rest)) :
    (run (ΓC P) 40).B (rtN P) [(9, false)] [("self", .ref 0), ("quoted", .bool q), ("escapedstate", .str " "), ("nextchar", .str ⟨#[34]⟩)] (lexS com (.str "a") token ln buf pos rest) ((whileBody (rtBody P)).drop 1) k := kcast (And.intro h0 hk) (by kernel_rfl!)
theorem rt_a_word (h0 : sEq ⟨#[c]⟩ (Str.ofString "\n") = false) (h1 : memN c (Str.ofString " \t\r\n").cps.toList = false) (h2 : memN c com.cps.toList = false) (h3 : memN c (Str.ofString "'\"").cps.toList = false) (h4 : memN c (Str.ofString "\\").cps.toList = false) (h5 : memN c wcS.cps.toList = true) (h6 : token.length + (⟨#[c]⟩ : Str).length ≤ sizeLine) (hk : k [] .next [("self", .ref 0), ("quoted", .bool q), ("escapedstate", .str " "), ("nextchar", .str ⟨#[c]⟩)] (lexS com (.str "a") (token ++ ⟨#[c]⟩) ln buf pos rest)) :
    (run (ΓC P) 40).B (rtN P) [(0, false), (7, false), (0, false), (2, false), (1, false), (0, true)] [("self", .ref 0), ("quoted", .bool q), ("escapedstate", .str " "), ("nextchar", .str ⟨#[c]⟩)] (lexS com (.str "a") token ln buf pos rest) ((whileBody (rtBody P)).drop 1) k := kcast (And.intro h0 (And.intro h1 (And.intro h2 (And.intro h3 (And.intro h4 (And.intro h5 (And.intro h6 hk))))))) (by kernel_rfl!)
theorem rt_a_other (h0 : sEq ⟨#[c]⟩ (Str.ofString "\n") = false) (h1 : memN c (Str.ofString " \t\r\n").cps.toList = false) (h2 : memN c com.cps.toList = false) (h3 : memN c (Str.ofString "'\"").cps.toList = false) (h4 : memN c (Str.ofString "\\").cps.toList = false) (h5 : memN c wcS.cps.toList = false) (h6 : memN c (Str.ofString "'\"").cps.toList = false) (h7 : token.length + (⟨#[c]⟩ : Str).length ≤ sizeLine) (hk : k [] .next [("self", .ref 0), ("quoted", .bool q), ("escapedstate", .str " "), ("nextchar", .str ⟨#[c]⟩)] (lexS com (.str "a") (token ++ ⟨#[c]⟩) ln buf pos rest)) :
    (run (ΓC P) 40).B (rtN P) [(0, false), (7, false), (0, false), (2, false), (1, false), (0, false), (0, false)] [("self", .ref 0), ("quoted", .bool q), ("escapedstate", .str " "), ("nextchar", .str ⟨#[c]⟩)] (lexS com (.str "a") token ln buf pos rest) ((whileBody (rtBody P)).drop 1) k := kcast (And.intro h0 (And.intro h1 (And.intro h2 (And.intro h3 (And.intro h4 (And.intro h5 (And.intro h6 (And.intro h7 hk)))))))) (by kernel_rfl!)
theorem rt_a_eof  (hk : k [] .brk [("self", .ref 0), ("quoted", .bool q), ("escapedstate", .str " "), ("nextchar", .str "")] (lexS com .none token ln buf pos rest)) :
    (run (ΓC P) 40).B (rtN P) [] [("self", .ref 0), ("quoted", .bool q), ("escapedstate", .str " "), ("nextchar", .str "")] (lexS com (.str "a") token ln buf pos rest) ((whileBody (rtBody P)).drop 1) k := kcast hk (by kernel_rfl!)
theorem rt_sq_end  (hk : k [] .next [("self", .ref 0), ("quoted", .bool true), ("escapedstate", .str " "), ("nextchar", .str ⟨#[39]⟩)] (lexS com (.str "a") token ln buf pos rest)) :
    (run (ΓC P) 40).B (rtN P) [] [("self", .ref 0), ("quoted", .bool q), ("escapedstate", .str " "), ("nextchar", .str ⟨#[39]⟩)] (lexS com (.str ⟨#[39]⟩) token ln buf pos rest) ((whileBody (rtBody P)).drop 1) k := kcast hk (by kernel_rfl!)
theorem rt_sq_other (h0 : sEq ⟨#[c]⟩ (Str.ofString "\n") = false) (h1 : sEq ⟨#[c]⟩ ⟨#[39]⟩ = false) (h2 : memN c (Str.ofString "\\").cps.toList = false) (h3 : token.length + (⟨#[c]⟩ : Str).length ≤ sizeLine) (hk : k [] .next [("self", .ref 0), ("quoted", .bool true), ("escapedstate", .str " "), ("nextchar", .str ⟨#[c]⟩)] (lexS com (.str ⟨#[39]⟩) (token ++ ⟨#[c]⟩) ln buf pos rest)) :
    (run (ΓC P) 40).B (rtN P) [(0, false), (5, false), (1, false)] [("self", .ref 0), ("quoted", .bool q), ("escapedstate", .str " "), ("nextchar", .str ⟨#[c]⟩)] (lexS com (.str ⟨#[39]⟩) token ln buf pos rest) ((whileBody (rtBody P)).drop 1) k := kcast (And.intro h0 (And.intro h1 (And.intro h2 (And.intro h3 hk)))) (by kernel_rfl!)
theorem rt_dq_end  (hk : k [] .next [("self", .ref 0), ("quoted", .bool true), ("escapedstate", .str " "), ("nextchar", .str ⟨#[34]⟩)] (lexS com (.str "a") token ln buf pos rest)) :
    (run (ΓC P) 40).B (rtN P) [] [("self", .ref 0), ("quoted", .bool q), ("escapedstate", .str " "), ("nextchar", .str ⟨#[34]⟩)] (lexS com (.str ⟨#[34]⟩) token ln buf pos rest) ((whileBody (rtBody P)).drop 1) k := kcast hk (by kernel_rfl!)
theorem rt_dq_other (h0 : sEq ⟨#[c]⟩ (Str.ofString "\n") = false) (h1 : sEq ⟨#[c]⟩ ⟨#[34]⟩ = false) (h2 : memN c (Str.ofString "\\").cps.toList = false) (h3 : token.length + (⟨#[c]⟩ : Str).length ≤ sizeLine) (hk : k [] .next [("self", .ref 0), ("quoted", .bool true), ("escapedstate", .str " "), ("nextchar", .str ⟨#[c]⟩)] (lexS com (.str ⟨#[34]⟩) (token ++ ⟨#[c]⟩) ln buf pos rest)) :
    (run (ΓC P) 40).B (rtN P) [(0, false), (5, false), (1, false)] [("self", .ref 0), ("quoted", .bool q), ("escapedstate", .str " "), ("nextchar", .str ⟨#[c]⟩)] (lexS com (.str ⟨#[34]⟩) token ln buf pos rest) ((whileBody (rtBody P)).drop 1) k := kcast (And.intro h0 (And.intro h1 (And.intro h2 (And.intro h3 hk)))) (by kernel_rfl!)
theorem rt_none  (hk : k [] .brk [("self", .ref 0), ("quoted", .bool false), ("escapedstate", .str " "), ("nextchar", .str "")] (lexS com .none "" ln buf pos rest)) :
    (run (ΓC P) 40).B (rtN P) [] [("self", .ref 0), ("quoted", .bool false), ("escapedstate", .str " "), ("nextchar", .str "")] (lexS com .none token ln buf pos rest) ((whileBody (rtBody P)).drop 1) k := kcast hk (by kernel_rfl!)
theorem rt_tail_q  (hk : k [] (.ret (.str token)) [("self", .ref 0), ("quoted", .bool true), ("escapedstate", .str " "), ("nextchar", old), ("result", .str token)] (lexS com state "" ln buf pos rest)) :
    (run (ΓC P) 40).B (rtN P) [] [("self", .ref 0), ("quoted", .bool true), ("escapedstate", .str " "), ("nextchar", old)] (lexS com state token ln buf pos rest) ((rtBody P).drop 3) k := kcast hk (by kernel_rfl!)
theorem rt_tail_n (h0 : sEq token (Str.ofString "") = true) (hk : k [] (.ret .none) [("self", .ref 0), ("quoted", .bool false), ("escapedstate", .str " "), ("nextchar", old), ("result", .none)] (lexS com state "" ln buf pos rest)) :
    (run (ΓC P) 40).B (rtN P) [(2, true)] [("self", .ref 0), ("quoted", .bool false), ("escapedstate", .str " "), ("nextchar", old)] (lexS com state token ln buf pos rest) ((rtBody P).drop 3) k := kcast (And.intro h0 hk) (by kernel_rfl!)
theorem rt_tail_s (h0 : sEq token (Str.ofString "") = false) (hk : k [] (.ret (.str token)) [("self", .ref 0), ("quoted", .bool false), ("escapedstate", .str " "), ("nextchar", old), ("result", .str token)] (lexS com state "" ln buf pos rest)) :
    (run (ΓC P) 40).B (rtN P) [(2, false)] [("self", .ref 0), ("quoted", .bool false), ("escapedstate", .str " "), ("nextchar", old)] (lexS com state token ln buf pos rest) ((rtBody P).drop 3) k := kcast (And.intro h0 hk) (by kernel_rfl!)
theorem rt_head (hk : k [] .next [("self", .ref 0), ("quoted", .bool false), ("escapedstate", .str " ")] (lexS com state token ln buf pos rest)) : (run (ΓC P) 40).B (rtN P) [] [("self", .ref 0)] (lexS com state token ln buf pos rest) ((rtBody P).take 2) k := kcast hk (by kernel_rfl!)
end
end Mine
end
section
open PySem PySem.W PyProof.Rows PySem.Calls
set_option Elab.async false
set_option maxRecDepth 100000
set_option maxHeartbeats 4000000
namespace Mine
noncomputable def locB (q : Bool) : Option V → Loc
  | none => [("self", .ref 0), ("quoted", .bool q), ("escapedstate", .str " ")]
  | some v => [("self", .ref 0), ("quoted", .bool q), ("escapedstate", .str " "), ("nextchar", v)]
noncomputable abbrev mkS (l : List Nat) : Str := ⟨l.toArray⟩
theorem len_mkS (l : List Nat) : ((mkS l).length : Int) = (l.length : Int) := by
  show ((l.toArray.size : Nat) : Int) = _
  simp
structure RtAt (com : Bool) (l : List Nat) (rest : List (Addr × Obj)) (res : Bool × List Nat × Bool × List Nat) (m : Nat) (loc : Loc) (st : St) (n : Nat) (sta : Sta) (q : Bool) (t : List Nat) (ln : Int) (o : Option V) : Prop where
  hn : n ≤ l.length
  hm : m = l.length - n
  ht : t.length ≤ n
  sp : sta = .sp → t = [] ∧ q = false
  loc : loc = locB q o
  st : st = lexS (comS com) sta.v (mkS t) ln (mkS l) n rest
  rd : rd com (l.drop n) sta q t = some res
noncomputable def RtInv (com : Bool) (l : List Nat) (rest : List (Addr × Obj)) (res : Bool × List Nat × Bool × List Nat) (m : Nat) (loc : Loc) (st : St) : Prop := ∃ n sta q t ln o, RtAt com l rest res m loc st n sta q t ln o
noncomputable def endV : Bool → V
  | true => .none
  | false => .str " "
noncomputable def RtFin (com : Bool) (l : List Nat) (rest : List (Addr × Obj)) (res : Bool × List Nat × Bool × List Nat) (loc : Loc) (st : St) : Prop :=
  ∃ (ln : Int) (v : V) (n : Nat), n ≤ l.length ∧ l.drop n = res.2.2.2 ∧ loc = locB res.1 (some v) ∧ st = lexS (comS com) (endV res.2.2.1) (mkS res.2.1) ln (mkS l) n rest
section
variable {prog : Program} {w : World} {mg mb : Str → Option Value} {os₀ : Glo} {f : FD}
theorem tbr (hf : f.Ok (KK w.params) mg mb) (hcs : f.cs = (fdAt (KK w.params) 734).scope) (hd : f.A.depth < 840) (hu : f.A.units < 8500) {p : Path} {b : List Stmt} {loc : Loc} {st : St} {k : Fl → Loc → St → Prop}
    (h : (run (ΓC w.params) 40).B (rtN w.params) p loc st b (fun _ => k)) : TB prog w os₀ f b loc st k :=
  TB.of_run (X := 900) (n := 40) (Nat.le_refl _) (okC prog w 900) hf (by omega) (by omega) (by rw [hcs]; exact h)
/-- a sign is read -/
theorem rt_read (hf : f.Ok (KK w.params) mg mb) (hcs : f.cs = (fdAt (KK w.params) 734).scope) (hd : f.A.depth < 840) (hu : f.A.units < 8500) {com : Bool} {l : List Nat} {rest : List (Addr × Obj)} {n : Nat} {state : V} {q : Bool} {t : List Nat} {ln : Int} {o : Option V} {c : Nat} {k : Fl → Loc → St → Prop}
    (hc : l[n]? = some c) (h : k .next (locB q (some (.str ⟨#[c]⟩))) (lexS (comS com) state (mkS t) ln (mkS l) ((n + 1 : Nat) : Int) rest)) :
    TB prog w os₀ f ((whileBody (rtBody w.params)).take 1) (locB q o) (lexS (comS com) state (mkS t) ln (mkS l) n rest) k := by
  obtain ⟨h1, h2⟩ := List.getElem?_eq_some_iff.mp hc
  have a0 : decide (((mkS l).length : Int) ≤ (n : Int)) = false := by rw [len_mkS]; simp; exact h1
  by_cases hn : n + 1 < l.length
  · have a1 : decide ((n : Int) + 1 < ((mkS l).length : Int)) = true := by rw [len_mkS]; simp; omega
    have e1 : Txt.slice (mkS l) (some (n : Int)) (some ((n : Int) + 1)) = ⟨#[c]⟩ := slice_at hc rfl
    have h' : k .next (locB q (some (.str (Txt.slice (mkS l) (some (n : Int)) (some ((n : Int) + 1)))))) (lexS (comS com) state (mkS t) ln (mkS l) ((n : Int) + 1) rest) := by rw [e1]; exact h
    cases o with
    | none => exact tbr hf hcs hd hu (rt_R1 a0 a1 h')
    | some v => exact tbr hf hcs hd hu (rt_R1n a0 a1 h')
  · have hl : l.length = n + 1 := by omega
    have a1 : decide ((n : Int) + 1 < ((mkS l).length : Int)) = false := by rw [len_mkS]; simp; omega
    have e1 : Txt.slice (mkS l) (some (n : Int)) (some ((mkS l).length : Int)) = ⟨#[c]⟩ := slice_at hc (by rw [len_mkS, hl]; rfl)
    have h' : k .next (locB q (some (.str (Txt.slice (mkS l) (some (n : Int)) (some ((mkS l).length : Int)))))) (lexS (comS com) state (mkS t) ln (mkS l) ((mkS l).length : Int) rest) := by
      rw [e1, len_mkS, hl]; exact h
    cases o with
    | none => exact tbr hf hcs hd hu (rt_R2 a0 a1 h')
    | some v => exact tbr hf hcs hd hu (rt_R2n a0 a1 h')
theorem rt_readEnd (hf : f.Ok (KK w.params) mg mb) (hcs : f.cs = (fdAt (KK w.params) 734).scope) (hd : f.A.depth < 840) (hu : f.A.units < 8500) {com : Bool} {l : List Nat} {rest : List (Addr × Obj)} {n : Nat} {state : V} {q : Bool} {t : List Nat} {ln : Int} {o : Option V} {k : Fl → Loc → St → Prop}
    (hn : l.length ≤ n) (h : k .next (locB q (some (.str ""))) (lexS (comS com) state (mkS t) ln (mkS l) n rest)) :
    TB prog w os₀ f ((whileBody (rtBody w.params)).take 1) (locB q o) (lexS (comS com) state (mkS t) ln (mkS l) n rest) k := by
  have a0 : decide (((mkS l).length : Int) ≤ (n : Int)) = true := by rw [len_mkS]; simp; exact hn
  cases o with
  | none => exact tbr hf hcs hd hu (rt_R3 a0 h)
  | some v => exact tbr hf hcs hd hu (rt_R3n a0 h)
end
end Mine
end
section
open PySem PySem.W PyProof.Rows PySem.Calls
set_option Elab.async false
set_option maxRecDepth 100000
set_option maxHeartbeats 4000000
namespace Mine
section
variable {prog : Program} {w : World} {mg mb : Str → Option Value} {os₀ : Glo} {f : FD}
structure DropC (l : List Nat) (n c : Nat) (r : List Nat) : Prop where
  at_ : l[n]? = some c
  drop : l.drop (n + 1) = r
  lt : n < l.length
theorem drop_cons {l : List Nat} {n c : Nat} {r : List Nat} (h : l.drop n = c :: r) : DropC l n c r := by
  have hn : n < l.length := by
    rcases Nat.lt_or_ge n l.length with h' | h'
    · exact h'
    · rw [List.drop_eq_nil_of_le h'] at h; exact nomatch h
  rw [List.drop_eq_getElem_cons hn] at h
  have h := List.cons.inj h
  exact ⟨(List.getElem?_eq_getElem hn).trans (congrArg some h.1), h.2, hn⟩
theorem size_tok {t : List Nat} {c n : Nat} {l : List Nat} (ht : t.length ≤ n) (hn : n < l.length) (hl : l.length ≤ sizeLine) : (mkS t).length + (⟨#[c]⟩ : Str).length ≤ sizeLine := by
  show t.toArray.size + 1 ≤ _
  rw [List.size_toArray]
  exact Nat.le_trans (Nat.succ_le_succ ht) (Nat.le_trans hn hl)
/-- what a turn leaves -/
noncomputable def RtK (com : Bool) (l : List Nat) (rest : List (Addr × Obj)) (res : Bool × List Nat × Bool × List Nat) (m : Nat) (fl : Fl) (loc' : Loc) (st' : St) : Prop := match fl with
  | .next => ∃ m', m' < m ∧ RtInv com l rest res m' loc' st'
  | .cont => ∃ m', m' < m ∧ RtInv com l rest res m' loc' st'
  | .brk => RtFin com l rest res loc' st'
  | .ret _ => False
variable {com : Bool} {l : List Nat} {rest : List (Addr × Obj)} {res : Bool × List Nat × Bool × List Nat} {n c : Nat} {r : List Nat} {q : Bool} {t : List Nat} {ln : Int}
theorem rt_go (sta : Sta) (D : DropC l n c r) (ht : t.length ≤ n + 1) (hsp : sta = .sp → t = [] ∧ q = false) (hrd : rd com r sta q t = some res) : RtK com l rest res (l.length - n) .next (locB q (some (.str ⟨#[c]⟩))) (lexS (comS com) sta.v (mkS t) ln (mkS l) ((n + 1 : Nat) : Int) rest) :=
  ⟨_, Nat.sub_lt_sub_left D.lt (Nat.lt_succ_self n), n + 1, sta, q, t, ln, _, D.lt, rfl, ht, hsp, rfl, rfl, by rw [D.drop]; exact hrd⟩
theorem RtK.next {m m' : Nat} {loc : Loc} {st : St} (h : m' < m) (I : RtInv com l rest res m' loc st) : RtK com l rest res m .next loc st := ⟨m', h, I⟩
theorem rt_goc (sta : Sta) (D : DropC l n c r) (ht : t.length ≤ n + 1) (hsp : sta = .sp → t = [] ∧ q = false) (hrd : rd com r sta q t = some res) : RtK com l rest res (l.length - n) .cont (locB q (some (.str ⟨#[c]⟩))) (lexS (comS com) sta.v (mkS t) ln (mkS l) ((n + 1 : Nat) : Int) rest) :=
  rt_go sta D ht hsp hrd
theorem len1 {t : List Nat} {c n : Nat} (ht : t.length ≤ n) : (t ++ [c]).length ≤ n + 1 := by rw [List.length_append]; exact Nat.succ_le_succ ht
noncomputable abbrev Runs (prog : Program) (w : World) (os₀ : Glo) (f : FD) : Prop := ∀ {p : Path} {b : List Stmt} {loc : Loc} {st : St} {k : Fl → Loc → St → Prop}, (run (ΓC w.params) 40).B (rtN w.params) p loc st b (fun _ => k) → TB prog w os₀ f b loc st k
theorem rt_turn_sp (tb : Runs prog w os₀ f) (hnl : memN 10 l = false) (D : DropC l n c r) (hrd : rd com (c :: r) .sp false [] = some res) :
    TB prog w os₀ f ((whileBody (rtBody w.params)).drop 1) (locB false (some (.str ⟨#[c]⟩))) (lexS (comS com) (.str " ") (mkS []) ln (mkS l) ((n + 1 : Nat) : Int) rest) (RtK com l rest res (l.length - n)) := by
  rw [rd_sp] at hrd
  by_cases h32 : c = 32
  · subst h32
    rw [if_pos rfl] at hrd
    exact tb (rt_sp_blank (rt_goc .sp D (Nat.zero_le _) (fun _ => ⟨rfl, rfl⟩) hrd))
  rw [if_neg h32] at hrd
  by_cases h35 : c = 35 ∧ com = true
  · rw [if_pos h35] at hrd
    obtain ⟨e1, e2⟩ := h35
    subst e1 e2
    have e := Option.some.inj hrd
    subst e
    have fin : ∀ {m : Nat}, m = l.length → RtInv true l rest (false, [], true, []) 0 (locB false (some (.str ⟨#[35]⟩))) (lexS "#" (.str " ") (mkS []) (ln + 1) (mkS l) (m : Int) rest) := fun {m} e =>
      ⟨l.length, .sp, false, [], ln + 1, _, Nat.le_refl _, (Nat.sub_self _).symm, Nat.zero_le _, fun _ => ⟨rfl, rfl⟩, rfl, by rw [e]; rfl, by rw [List.drop_length]; rfl⟩
    have pos : 0 < l.length - n := Nat.sub_pos_of_lt D.lt
    by_cases he : n + 1 = l.length
    · have a0 : decide (((mkS l).length : Int) ≤ ((n + 1 : Nat) : Int)) = true := by rw [len_mkS, he]; exact decide_eq_true (Int.le_refl _)
      exact tb (rt_sp_com0 a0 (.next pos (fin he)))
    · have a0 : decide (((mkS l).length : Int) ≤ ((n + 1 : Nat) : Int)) = false := by rw [len_mkS]; exact decide_eq_false fun g => he (Nat.le_antisymm D.lt (Int.ofNat_le.mp g))
      have a1 : decide (0 ≤ find4 (mkS l) (Str.ofString "\n") ((n + 1 : Nat) : Int) ((mkS l).length : Int)) = false := by
        rw [show Str.ofString "\n" = ⟨#[10]⟩ from rfl, find4_none (show memN 10 (mkS l).cps.toList = false from hnl)]
        rfl
      refine tb (rt_sp_com a0 a1 (.next pos ?_))
      rw [len_mkS]
      exact fin rfl
  rw [if_neg h35] at hrd
  by_cases h39 : c = 39
  · subst h39
    rw [if_pos rfl] at hrd
    exact tb (rt_sp_sq (com_not h35) (rt_go .sq D (Nat.zero_le _) (fun e => nomatch e) hrd))
  rw [if_neg h39] at hrd
  by_cases h34 : c = 34
  · subst h34
    rw [if_pos rfl] at hrd
    exact tb (rt_sp_dq (com_not h35) (rt_go .dq D (Nat.zero_le _) (fun e => nomatch e) hrd))
  rw [if_neg h34] at hrd
  by_cases hok : okc c = true
  · rw [if_pos hok] at hrd
    have fin := rt_go .a (com := com) (rest := rest) (ln := ln) D (t := [c]) (Nat.succ_le_succ (Nat.zero_le _)) (fun e => nomatch e) hrd
    cases hw : memN c wcS.cps.toList with
    | true => exact tb (rt_sp_word (okc_nl hok) (okc_ws hok h32) (com_not h35) (okc_es hok) hw fin)
    | false => exact tb (rt_sp_other (okc_nl hok) (okc_ws hok h32) (com_not h35) (okc_es hok) hw (okc_qu h39 h34) fin)
  · rw [if_neg hok] at hrd; exact no' hrd
theorem rt_turn_a (tb : Runs prog w os₀ f) (hl : l.length ≤ sizeLine) (D : DropC l n c r) (ht : t.length ≤ n) (hrd : rd com (c :: r) .a q t = some res) :
    TB prog w os₀ f ((whileBody (rtBody w.params)).drop 1) (locB q (some (.str ⟨#[c]⟩))) (lexS (comS com) (.str "a") (mkS t) ln (mkS l) ((n + 1 : Nat) : Int) rest) (RtK com l rest res (l.length - n)) := by
  rw [rd_a] at hrd
  by_cases h32 : c = 32
  · subst h32
    rw [if_pos rfl] at hrd
    by_cases htq : t = [] ∧ q = false
    · rw [if_pos htq] at hrd; exact no' hrd
    rw [if_neg htq] at hrd
    have e := Option.some.inj hrd
    subst e
    have fin : RtFin com l rest (q, t, false, r) (locB q (some (.str ⟨#[32]⟩))) (lexS (comS com) (.str " ") (mkS t) ln (mkS l) ((n + 1 : Nat) : Int) rest) :=
      ⟨ln, _, n + 1, D.lt, D.drop, rfl, rfl⟩
    cases t with
    | nil =>
      cases q with
      | true => exact tb (rt_a_blank2 fin)
      | false => exact absurd ⟨rfl, rfl⟩ htq
    | cons d t' => exact tb (rt_a_blank1 (by rw [len_mkS]; exact bne_iff_ne.mpr fun e => nomatch e) fin)
  rw [if_neg h32] at hrd
  by_cases h35 : c = 35 ∧ com = true
  · rw [if_pos h35] at hrd; exact no' hrd
  rw [if_neg h35] at hrd
  by_cases h39 : c = 39
  · subst h39
    rw [if_pos rfl] at hrd
    exact tb (rt_a_sq (com_not h35) (rt_go .sq D (Nat.le_succ_of_le ht) (fun e => nomatch e) hrd))
  rw [if_neg h39] at hrd
  by_cases h34 : c = 34
  · subst h34
    rw [if_pos rfl] at hrd
    exact tb (rt_a_dq (com_not h35) (rt_go .dq D (Nat.le_succ_of_le ht) (fun e => nomatch e) hrd))
  rw [if_neg h34] at hrd
  by_cases hok : okc c = true
  · rw [if_pos hok] at hrd
    have fin := rt_go .a (com := com) (rest := rest) (ln := ln) D (len1 ht) (fun e => nomatch e) hrd
    rw [show mkS (t ++ [c]) = _ from (app1 t c).symm] at fin
    cases hw : memN c wcS.cps.toList with
    | true => exact tb (rt_a_word (okc_nl hok) (okc_ws hok h32) (com_not h35) (okc_qu h39 h34) (okc_es hok) hw (size_tok ht D.lt hl) fin)
    | false => exact tb (rt_a_other (okc_nl hok) (okc_ws hok h32) (com_not h35) (okc_qu h39 h34) (okc_es hok) hw (okc_qu h39 h34) (size_tok ht D.lt hl) fin)
  · rw [if_neg hok] at hrd; exact no' hrd
theorem rt_turn_sq (tb : Runs prog w os₀ f) (hl : l.length ≤ sizeLine) (D : DropC l n c r) (ht : t.length ≤ n) (hrd : rd com (c :: r) .sq q t = some res) :
    TB prog w os₀ f ((whileBody (rtBody w.params)).drop 1) (locB q (some (.str ⟨#[c]⟩))) (lexS (comS com) (.str ⟨#[39]⟩) (mkS t) ln (mkS l) ((n + 1 : Nat) : Int) rest) (RtK com l rest res (l.length - n)) := by
  rw [rd_sq] at hrd
  by_cases h39 : c = 39
  · subst h39
    rw [if_pos rfl] at hrd
    exact tb (rt_sq_end (rt_go .a D (Nat.le_succ_of_le ht) (fun e => nomatch e) hrd))
  rw [if_neg h39] at hrd
  by_cases hok : okc c = true
  · rw [if_pos hok] at hrd
    have fin := rt_go .sq (com := com) (rest := rest) (ln := ln) D (len1 ht) (fun e => nomatch e) hrd
    rw [show mkS (t ++ [c]) = _ from (app1 t c).symm] at fin
    exact tb (rt_sq_other (okc_nl hok) (sEq_one h39) (okc_es hok) (size_tok ht D.lt hl) fin)
  · rw [if_neg hok] at hrd; exact no' hrd
theorem rt_turn_dq (tb : Runs prog w os₀ f) (hl : l.length ≤ sizeLine) (D : DropC l n c r) (ht : t.length ≤ n) (hrd : rd com (c :: r) .dq q t = some res) :
    TB prog w os₀ f ((whileBody (rtBody w.params)).drop 1) (locB q (some (.str ⟨#[c]⟩))) (lexS (comS com) (.str ⟨#[34]⟩) (mkS t) ln (mkS l) ((n + 1 : Nat) : Int) rest) (RtK com l rest res (l.length - n)) := by
  rw [rd_dq] at hrd
  by_cases h34 : c = 34
  · subst h34
    rw [if_pos rfl] at hrd
    exact tb (rt_dq_end (rt_go .a D (Nat.le_succ_of_le ht) (fun e => nomatch e) hrd))
  rw [if_neg h34] at hrd
  by_cases hok : okc c = true
  · rw [if_pos hok] at hrd
    have fin := rt_go .dq (com := com) (rest := rest) (ln := ln) D (len1 ht) (fun e => nomatch e) hrd
    rw [show mkS (t ++ [c]) = _ from (app1 t c).symm] at fin
    exact tb (rt_dq_other (okc_nl hok) (sEq_one h34) (okc_es hok) (size_tok ht D.lt hl) fin)
  · rw [if_neg hok] at hrd; exact no' hrd
/-- one turn of the loop -/
theorem rt_turn (hf : f.Ok (KK w.params) mg mb) (hcs : f.cs = (fdAt (KK w.params) 734).scope) (hd : f.A.depth < 840) (hu : f.A.units < 8500)
    (hl : l.length ≤ sizeLine) (hnl : memN 10 l = false) (m : Nat) (loc : Loc) (st : St) (I : RtInv com l rest res m loc st) :
    TB prog w os₀ f (whileBody (rtBody w.params)) loc st (RtK com l rest res m) := by
  obtain ⟨n, sta, q, t, ln, o, hn, e1, ht, hsp, e2, e3, hrd⟩ := I
  subst e1 e2 e3
  have tb : Runs prog w os₀ f := fun {p b loc st k} h => tbr hf hcs hd hu h
  rw [← List.take_append_drop 1 (whileBody (rtBody w.params))]
  refine TB.append ?_
  cases hdr : l.drop n with
  | nil =>
    rw [hdr] at hrd
    refine rt_readEnd hf hcs hd hu (List.drop_eq_nil_iff.mp hdr) ?_
    cases sta with
    | sp =>
      obtain ⟨e1, e2⟩ := hsp rfl
      subst e1 e2
      have e := Option.some.inj hrd
      subst e
      exact tb (rt_sp_eof ⟨ln, _, n, hn, hdr, rfl, rfl⟩)
    | a =>
      have e := Option.some.inj hrd
      subst e
      exact tb (rt_a_eof ⟨ln, _, n, hn, hdr, rfl, rfl⟩)
    | _ => exact no' hrd
  | cons c r =>
    have D := drop_cons hdr
    rw [hdr] at hrd
    refine rt_read hf hcs hd hu D.at_ ?_
    cases sta with
    | sp =>
      obtain ⟨e1, e2⟩ := hsp rfl
      subst e1 e2
      exact rt_turn_sp tb hnl D hrd
    | a => exact rt_turn_a tb hl D ht hrd
    | sq => exact rt_turn_sq tb hl D ht hrd
    | dq => exact rt_turn_dq tb hl D ht hrd
end
end Mine
end
section
open PySem PySem.W PyProof.Rows PySem.Calls
set_option Elab.async false
set_option maxRecDepth 100000
set_option maxHeartbeats 4000000
namespace Mine
noncomputable def tokV (q : Bool) (t : List Nat) : V := if q = false ∧ t = [] then .none else .str (mkS t)
noncomputable def rtSpec (vs : List V) (st : St) (k : V → St → Prop) : Prop :=
  vs = [.ref 0] ∧ ∃ (com : Bool) (l : List Nat) (n : Nat) (ln : Int) (rest : List (Addr × Obj)), l.length ≤ sizeLine ∧ memN 10 l = false ∧ n ≤ l.length ∧
    ((∃ res, st = lexS (comS com) (.str " ") "" ln (mkS l) n rest ∧ rd com (l.drop n) .sp false [] = some res ∧
      ∀ (ln' : Int) (n' : Nat), n' ≤ l.length → l.drop n' = res.2.2.2 → k (tokV res.1 res.2.1) (lexS (comS com) (endV res.2.2.1) "" ln' (mkS l) n' rest)) ∨
     (st = lexS (comS com) .none "" ln (mkS l) n rest ∧ l.length ≤ n ∧ k .none st))
noncomputable def whileC (b : List Stmt) : Nat := kC (sE 0 [] (sI 2 b))
noncomputable def whileCp (b : List Stmt) : Pos := (sE 0 [] (sI 2 b)).pos
noncomputable def whileP (b : List Stmt) : Pos := (sI 2 b).pos
theorem rt_body (P : Params) : rtBody P = (rtBody P).take 2 ++ (.While (.Constant (.bool true) (whileC (rtBody P)) (whileCp (rtBody P))) (whileBody (rtBody P)) [] (whileP (rtBody P)) :: (rtBody P).drop 3) := by kernel_rfl!
theorem sEq_mkS_nil {t : List Nat} : sEq (mkS t) (Str.ofString "") = decide (t = []) := by
  cases h : sEq (mkS t) (Str.ofString "") with
  | true =>
    have := sEq_iff.mp h
    have e : (mkS t) = ⟨#[]⟩ := this
    simp at e
    simp [e]
  | false =>
    have := sEq_false h
    symm
    simp
    intro e
    subst e
    exact this rfl
section
variable {prog : Program} {w : World} {mg mb : Str → Option Value} {os₀ : Glo} {f : FD}
theorem rt_tail (hf : f.Ok (KK w.params) mg mb) (hcs : f.cs = (fdAt (KK w.params) 734).scope) (hd : f.A.depth < 840) (hu : f.A.units < 8500) {com : Bool} {l : List Nat} {rest : List (Addr × Obj)} {n : Nat} {state v : V} {q : Bool} {t : List Nat} {ln : Int} {k : Fl → Loc → St → Prop}
    (h : ∀ loc, k (.ret (tokV q t)) loc (lexS (comS com) state "" ln (mkS l) n rest)) :
    TB prog w os₀ f ((rtBody w.params).drop 3) (locB q (some v)) (lexS (comS com) state (mkS t) ln (mkS l) n rest) k := by
  cases q with
  | true =>
    have e : tokV true t = .str (mkS t) := by unfold tokV; simp
    rw [e] at h
    exact tbr hf hcs hd hu (rt_tail_q (h _))
  | false =>
    by_cases ht : t = []
    · have e : tokV false t = .none := by unfold tokV; simp [ht]
      rw [e] at h
      exact tbr hf hcs hd hu (rt_tail_n (by rw [sEq_mkS_nil]; simp [ht]) (h _))
    · have e : tokV false t = .str (mkS t) := by unfold tokV; simp [ht]
      rw [e] at h
      exact tbr hf hcs hd hu (rt_tail_s (by rw [sEq_mkS_nil]; simp [ht]) (h _))
theorem rt_ok (hf : f.Ok (KK w.params) mg mb) (hcs : f.cs = (fdAt (KK w.params) 734).scope) (hd : f.A.depth < 840) (hu : f.A.units < 8500) {st : St} {k : V → St → Prop} (h : rtSpec [.ref 0] st k) :
    TB prog w os₀ f (rtBody w.params) [("self", .ref 0)] st (fun fl _ st' => match fl with | .ret v => k v st' | .next => k .none st' | _ => False) := by
  obtain ⟨-, com, l, n, ln, rest, hl, hnl, hn, h⟩ := h
  rw [rt_body]
  refine TB.append ?_
  rcases h with ⟨res, rfl, hrd, hk⟩ | ⟨rfl, hn', hk⟩
  · refine tbr hf hcs hd hu (rt_head ?_)
    dsimp only
    refine TB.cons (TS.forever (RtInv com l rest res) (l.length - n) ⟨n, .sp, false, [], ln, none, hn, rfl, Nat.zero_le _, fun _ => ⟨rfl, rfl⟩, rfl, rfl, hrd⟩ fun m loc st I => TB.mono (rt_turn hf hcs hd hu hl hnl m loc st I) ?_)
    intro fl loc' st' h'
    cases fl with
    | next => exact h'
    | cont => exact h'
    | ret v => exact h'.elim
    | brk =>
      obtain ⟨ln', v, n', hn', hdr, rfl, rfl⟩ := h'
      exact rt_tail hf hcs hd hu fun _ => hk ln' n' hn' hdr
  · refine tbr hf hcs hd hu (rt_head ?_)
    dsimp only
    have turn : ∀ o, TB prog w os₀ f (whileBody (rtBody w.params)) (locB false o) (lexS (comS com) .none "" ln (mkS l) n rest) (fun fl loc' st' => match fl with
      | .brk => loc' = locB false (some (.str "")) ∧ st' = lexS (comS com) .none "" ln (mkS l) n rest
      | _ => False) := by
      intro o
      rw [← List.take_append_drop 1 (whileBody (rtBody w.params))]
      refine TB.append (rt_readEnd (t := []) hf hcs hd hu hn' ?_)
      exact tbr hf hcs hd hu (rt_none ⟨rfl, rfl⟩)
    refine TB.cons (TS.forever (fun _ loc st => loc = locB false none ∧ st = lexS (comS com) .none "" ln (mkS l) n rest) 0 ⟨rfl, rfl⟩ fun m loc st I => ?_)
    obtain ⟨rfl, rfl⟩ := I
    refine TB.mono (turn none) ?_
    intro fl loc' st' h'
    cases fl with
    | next => exact h'.elim
    | cont => exact h'.elim
    | ret v => exact h'.elim
    | brk =>
      obtain ⟨rfl, rfl⟩ := h'
      exact rt_tail (q := false) (t := []) hf hcs hd hu fun _ => hk
end
noncomputable def fn734 (P : Params) : FnI := mkFn (KK P) 734 1 [] [("self", .arg 0)]
theorem ok_734 (P : Params) : FnOk (KK P) (fn734 P) := fn_1 (by kernel_rfl!) (by intro S a; kernel_rfl!) (noconst1 rfl)
theorem rt_spec (prog : Program) (w : World) {X : Nat} (hX : X ≤ 830) : SpecOk prog w (KK w.params) X 734 rtSpec := by
  refine spec_of (i := fn734 w.params) (by omega) (ok_734 _) rfl (by kernel_rfl!) (fun vs st k h => by rw [h.1]; rfl) ?_
  intro mg mb os₀ f hf hcs hd hu vs st k h
  have e := h.1
  subst e
  exact rt_ok hf hcs (by omega) (by omega) h
end Mine
end
section
open PySem PySem.W PyProof.Rows PySem.Calls
set_option Elab.async false
set_option maxRecDepth 100000
set_option maxHeartbeats 4000000
namespace Mine
noncomputable def fn756 (P : Params) : FnI := mkFn (KK P) 756 1 [] [("self", .arg 0)]
noncomputable def fn727 (P : Params) : FnI := mkFn (KK P) 727 1 [] [("self", .arg 0)]
noncomputable def fn763 (P : Params) : FnI := mkFn (KK P) 763 1 [] [("self", .arg 0)]
theorem ok_756 (P : Params) : FnOk (KK P) (fn756 P) := fn_1 (by kernel_rfl!) (by intro S a; kernel_rfl!) (noconst1 rfl)
theorem ok_727 (P : Params) : FnOk (KK P) (fn727 P) := fn_1 (by kernel_rfl!) (by intro S a; kernel_rfl!) (noconst1 rfl)
theorem ok_763 (P : Params) : FnOk (KK P) (fn763 P) := fn_1 (by kernel_rfl!) (by intro S a; kernel_rfl!) (noconst1 rfl)
noncomputable def ΓD (P : Params) : Gam := { ΓC P with
  fns := fn756 P :: (ΓC P).fns
  meth := [(631, [("read", 577), ("_StringIO__check", 415), ("_StringIO__translated", 408), ("readline", 585), ("_StringIO__line", 429)]), (766, [("read_token", 734), ("get_token", 727)])]
  spec := [(734, rtSpec)] }
theorem ok_methD (P : Params) : methTab (KK P) (ΓD P).meth = true := by kernel_rfl!
theorem okD (prog : Program) (w : World) {X : Nat} (hX : X ≤ 830) : (ΓD w.params).Ok prog w (KK w.params) X :=
  { okC prog w X with
    fns := fun i hi => by
      rcases List.mem_cons.mp hi with rfl | hi
      · exact ok_756 _
      · exact (okC prog w X).fns i hi
    meth := methTab_ok (ok_methD _)
    spec := fun a sp h => by
      simp only [ΓD, List.mem_cons, List.not_mem_nil, or_false] at h
      cases h
      exact rt_spec prog w hX }
noncomputable def gtBody (P : Params) : List Stmt := bodyOf (fdAt (KK P) 727).body
noncomputable abbrev gtN (P : Params) := (fdAt (KK P) 727).scope.names
noncomputable def whTest (b : List Stmt) : Expr := sE 0 [] (sI 0 b)
noncomputable def whBody (b : List Stmt) : List Stmt := subS (sI 0 b)
noncomputable def whPos (b : List Stmt) : Pos := (sI 0 b).pos
section
variable {P : Params} {state v : V} {com token t : Str} {ln : Int} {buf : Str} {pos : Int} {rest : List (Addr × Obj)} {k : Path → Fl → Loc → St → Prop} {kt : Path → Bool → St → Prop}
theorem gt_0 (hk : k [] .next [("self", .ref 0)] (lexS com state token ln buf pos rest)) : (run (ΓD P) 40).B (gtN P) [] [("self", .ref 0)] (lexS com state token ln buf pos rest) ((gtBody P).take 1) k := kcast hk (by kernel_rfl!)
theorem gt_1 (hk : rtSpec [.ref 0] (lexS com state token ln buf pos rest) (fun v st' => k [] .next [("self", .ref 0), ("raw", v)] st')) : (run (ΓD P) 40).B (gtN P) [] [("self", .ref 0)] (lexS com state token ln buf pos rest) (((gtBody P).drop 1).take 1) k := kcast hk (by kernel_rfl!)
theorem gt_2 (hk : k [] .next [("self", .ref 0), ("raw", v)] (lexS com state token ln buf pos rest)) : (run (ΓD P) 40).B (gtN P) [] [("self", .ref 0), ("raw", v)] (lexS com state token ln buf pos rest) (((gtBody P).drop 2).take 1) k := kcast hk (by kernel_rfl!)
theorem gt_t0 (hk : kt [] true (lexS com state token ln buf pos rest)) : (run (ΓD P) 40).T (gtN P) [] [("self", .ref 0), ("raw", .none)] (lexS com state token ln buf pos rest) (whTest ((gtBody P).drop 3)) kt := kcast hk (by kernel_rfl!)
theorem gt_t1 (hk : kt [] false (lexS com state token ln buf pos rest)) : (run (ΓD P) 40).T (gtN P) [] [("self", .ref 0), ("raw", .str t)] (lexS com state token ln buf pos rest) (whTest ((gtBody P).drop 3)) kt := kcast hk (by kernel_rfl!)
theorem gt_b (hk : k [] (.ret .none) [("self", .ref 0), ("raw", .none)] (lexS com state token ln buf pos rest)) : (run (ΓD P) 40).B (gtN P) [] [("self", .ref 0), ("raw", .none)] (lexS com state token ln buf pos rest) (whBody ((gtBody P).drop 3)) k := kcast hk (by kernel_rfl!)
theorem gt_4 (hk : k [] (.ret (.str t)) [("self", .ref 0), ("raw", .str t)] (lexS com state token ln buf pos rest)) : (run (ΓD P) 40).B (gtN P) [] [("self", .ref 0), ("raw", .str t)] (lexS com state token ln buf pos rest) ((gtBody P).drop 4) k := kcast hk (by kernel_rfl!)
theorem gt_body (P : Params) : gtBody P = (gtBody P).take 1 ++ (((gtBody P).drop 1).take 1 ++ (((gtBody P).drop 2).take 1 ++ (.While (whTest ((gtBody P).drop 3)) (whBody ((gtBody P).drop 3)) [] (whPos ((gtBody P).drop 3)) :: (gtBody P).drop 4))) := by kernel_rfl!
end
section
variable {prog : Program} {w : World} {mg mb : Str → Option Value} {os₀ : Glo} {f : FD}
theorem tbg (hf : f.Ok (KK w.params) mg mb) (hcs : f.cs = (fdAt (KK w.params) 727).scope) (hd : f.A.depth < 780) (hu : f.A.units < 7800) {p : Path} {b : List Stmt} {loc : Loc} {st : St} {k : Fl → Loc → St → Prop}
    (h : (run (ΓD w.params) 40).B (gtN w.params) p loc st b (fun _ => k)) : TB prog w os₀ f b loc st k :=
  TB.of_run (X := 830) (n := 40) (by omega) (okD prog w (Nat.le_refl _)) hf (by omega) (by omega) (by rw [hcs]; exact h)
theorem rtSpec.mono {vs : List V} {st : St} {k k' : V → St → Prop} (h : rtSpec vs st k) (hk : ∀ v com state ln l (n : Nat) rest, (v = .none ∨ ∃ t, v = .str t) → k v (lexS (comS com) state "" ln (mkS l) n rest) → k' v (lexS (comS com) state "" ln (mkS l) n rest)) : rtSpec vs st k' := by
  obtain ⟨e, com, l, n, ln, rest, hl, hnl, hn, h⟩ := h
  refine ⟨e, com, l, n, ln, rest, hl, hnl, hn, ?_⟩
  rcases h with ⟨res, rfl, hrd, h⟩ | ⟨rfl, hn', h⟩
  · refine .inl ⟨res, rfl, hrd, fun ln' n' h1 h2 => hk _ _ _ _ _ _ _ ?_ (h ln' n' h1 h2)⟩
    unfold tokV
    split
    · exact .inl rfl
    · exact .inr ⟨_, rfl⟩
  · exact .inr ⟨rfl, hn', hk _ _ _ _ _ _ _ (.inl rfl) h⟩
theorem rtSpec.shape {vs : List V} {st : St} {k : V → St → Prop} (h : rtSpec vs st k) : ∃ com state ln l, ∃ (n : Nat) (rest : _), st = lexS (comS com) state "" ln (mkS l) n rest := by
  obtain ⟨e, com, l, n, ln, rest, hl, hnl, hn, h⟩ := h
  rcases h with ⟨res, rfl, _⟩ | ⟨rfl, _⟩
  · exact ⟨com, _, ln, l, n, rest, rfl⟩
  · exact ⟨com, _, ln, l, n, rest, rfl⟩
theorem gt_ok (hf : f.Ok (KK w.params) mg mb) (hcs : f.cs = (fdAt (KK w.params) 727).scope) (hd : f.A.depth < 780) (hu : f.A.units < 7800) {st : St} {k : V → St → Prop} (h : rtSpec [.ref 0] st k) :
    TB prog w os₀ f (gtBody w.params) [("self", .ref 0)] st (fun fl _ st' => match fl with | .ret v => k v st' | .next => k .none st' | _ => False) := by
  obtain ⟨com, state, ln, l, n, rest, rfl⟩ := h.shape
  rw [gt_body]
  refine TB.append (tbg hf hcs hd hu (gt_0 ?_))
  refine TB.append (tbg hf hcs hd hu (gt_1 (h.mono fun v com' state' ln' l' n' rest' hv hk => ?_)))
  refine TB.append (tbg hf hcs hd hu (gt_2 ?_))
  refine TB.cons ?_
  rcases hv with rfl | ⟨t, rfl⟩
  · refine TS.whileT (X := 830) (N := 40) (by omega) (okD prog w (Nat.le_refl _)) hf (by omega) (by omega) (fun _ loc st => loc = ([("self", .ref 0), ("raw", .none)] : Loc) ∧ st = lexS (comS com') state' "" ln' (mkS l') n' rest') 0 ⟨rfl, rfl⟩ ?_
    rintro m loc st ⟨rfl, rfl⟩
    refine ⟨[], ?_⟩
    rw [hcs]
    refine gt_t0 ?_
    exact tbg hf hcs hd hu (gt_b hk)
  · refine TS.whileT (X := 830) (N := 40) (by omega) (okD prog w (Nat.le_refl _)) hf (by omega) (by omega) (fun _ loc st => loc = ([("self", .ref 0), ("raw", .str t)] : Loc) ∧ st = lexS (comS com') state' "" ln' (mkS l') n' rest') 0 ⟨rfl, rfl⟩ ?_
    rintro m loc st ⟨rfl, rfl⟩
    refine ⟨[], ?_⟩
    rw [hcs]
    refine gt_t1 ?_
    exact tbg hf hcs hd hu (gt_4 hk)
end
theorem gt_spec (prog : Program) (w : World) {X : Nat} (hX : X ≤ 770) : SpecOk prog w (KK w.params) X 727 rtSpec := by
  refine spec_of (i := fn727 w.params) (by omega) (ok_727 _) rfl (by kernel_rfl!) (fun vs st k h => by rw [h.1]; rfl) ?_
  intro mg mb os₀ f hf hcs hd hu vs st k h
  have e := h.1
  subst e
  exact gt_ok hf hcs (by omega) (by omega) h
end Mine
end
section
open PySem PySem.W PyProof.Rows PySem.Calls
set_option Elab.async false
set_option maxRecDepth 100000
set_option maxHeartbeats 4000000
namespace Mine
noncomputable def ΓE (P : Params) : Gam := { ΓD P with
  glob := ("StopIteration", .ty "StopIteration") :: (ΓD P).glob
  spec := [(734, rtSpec), (727, rtSpec)] }
theorem ok_globE (P : Params) : globTab (KK P) (ΓE P).glob = true := by kernel_rfl!
theorem okE (prog : Program) (w : World) {X : Nat} (hX : X ≤ 770) : (ΓE w.params).Ok prog w (KK w.params) X :=
  { okD prog w (X := X) (by omega) with
    glob := globTab_ok (ok_globE _)
    spec := fun a sp h => by
      simp only [ΓE, List.mem_cons, List.not_mem_nil, or_false] at h
      rcases h with h | h <;> cases h
      · exact rt_spec prog w (by omega)
      · exact gt_spec prog w hX }
noncomputable def nxBody (P : Params) : List Stmt := bodyOf (fdAt (KK P) 763).body
noncomputable abbrev nxN (P : Params) := (fdAt (KK P) 763).scope.names
noncomputable def ifTest (b : List Stmt) : Expr := sE 0 [] (sI 0 b)
noncomputable def ifPos (b : List Stmt) : Pos := (sI 0 b).pos
noncomputable def raiseN (b : List Stmt) : Pos := (sE 0 [] (sI 0 (subS (sI 0 b)))).pos
noncomputable def raiseP (b : List Stmt) : Pos := (sI 0 (subS (sI 0 b))).pos
section
variable {P : Params} {state v : V} {com token t : Str} {ln : Int} {buf : Str} {pos : Int} {rest : List (Addr × Obj)} {k : Path → Fl → Loc → St → Prop} {kt : Path → Bool → St → Prop} {ku : Path → V → St → Prop}
theorem nx_0 (hk : rtSpec [.ref 0] (lexS com state token ln buf pos rest) (fun v st' => k [] .next [("self", .ref 0), ("token", v)] st')) : (run (ΓE P) 40).B (nxN P) [] [("self", .ref 0)] (lexS com state token ln buf pos rest) ((nxBody P).take 1) k := kcast hk (by kernel_rfl!)
theorem nx_1 (hk : k [] (.ret (.str t)) [("self", .ref 0), ("token", .str t)] (lexS com state token ln buf pos rest)) : (run (ΓE P) 40).B (nxN P) [] [("self", .ref 0), ("token", .str t)] (lexS com state token ln buf pos rest) ((nxBody P).drop 1) k := kcast hk (by kernel_rfl!)
theorem nx_t (hk : kt [] true (lexS com state token ln buf pos rest)) : (run (ΓE P) 40).T (nxN P) [] [("self", .ref 0), ("token", .none)] (lexS com state token ln buf pos rest) (ifTest ((nxBody P).drop 1)) kt := kcast hk (by kernel_rfl!)
theorem nx_rest (P : Params) : (nxBody P).drop 1 = .If (ifTest ((nxBody P).drop 1)) [.Raise (some (.Name (Str.ofString "StopIteration") (raiseN ((nxBody P).drop 1)))) none (raiseP ((nxBody P).drop 1))] [] (ifPos ((nxBody P).drop 1)) :: (nxBody P).drop 2 := by kernel_rfl!
theorem it_u (hk : ku [] (.ref 0) (lexS com state token ln buf pos rest)) : (run (ΓE P) 40).U [] (lexS com state token ln buf pos rest) 756 [.ref 0] [] [] ku := kcast hk (by kernel_rfl!)
end
noncomputable def LexJ (vs : List V) (objs : List (Nat × O)) (next : Nat) : Prop := next = 4 ∧ ∃ (com : Bool) (l : List Nat) (n : Nat) (ln : Int) (ended : Bool), l.length ≤ sizeLine ∧ memN 10 l = false ∧ n ≤ l.length ∧
  objs = (lexS (comS com) (endV ended) "" ln (mkS l) n []).objs ∧
  ((ended = false ∧ ∃ k ts, toks com k (l.drop n) = some ts ∧ vs = ts.map (fun t => .str (mkS t))) ∨ (ended = true ∧ l.length ≤ n ∧ vs = []))
noncomputable def LexD (_ : List (Nat × O)) (next : Nat) : Prop := next = 4
noncomputable def LexK (com : Bool) (l : List Nat) (n : Nat) (ended : Bool) (vs : List V) : Prop := (ended = false ∧ ∃ k ts, toks com k (l.drop n) = some ts ∧ vs = ts.map (fun t => .str (mkS t))) ∨ (ended = true ∧ l.length ≤ n ∧ vs = [])
structure LexA (vs : List V) (objs : List (Nat × O)) (next : Nat) (com : Bool) (l : List Nat) (n : Nat) (ln : Int) (ended : Bool) : Prop where
  next_ : next = 4
  hl : l.length ≤ sizeLine
  hnl : memN 10 l = false
  hn : n ≤ l.length
  objs_ : objs = (lexS (comS com) (endV ended) "" ln (mkS l) n []).objs
  k : LexK com l n ended vs
theorem LexJ.inv {vs : List V} {objs : List (Nat × O)} {next : Nat} (h : LexJ vs objs next) : ∃ com l n ln ended, LexA vs objs next com l n ln ended := by
  obtain ⟨e, com, l, n, ln, ended, h1, h2, h3, h4, h5⟩ := h
  exact ⟨com, l, n, ln, ended, e, h1, h2, h3, h4, h5⟩
theorem LexA.J {vs : List V} {objs : List (Nat × O)} {next : Nat} {com : Bool} {l : List Nat} {n : Nat} {ln : Int} {ended : Bool} (A : LexA vs objs next com l n ln ended) : LexJ vs objs next := ⟨A.next_, com, l, n, ln, ended, A.hl, A.hnl, A.hn, A.objs_, A.k⟩
structure LexStep (com : Bool) (l : List Nat) (n : Nat) (vs : List V) (res : Bool × List Nat × Bool × List Nat) : Prop where
  rd : Mine.rd com (l.drop n) .sp false [] = some res
  word : ∀ t, .str t = tokV res.1 res.2.1 → ∃ vs', vs = .str t :: vs' ∧ ∀ n', l.drop n' = res.2.2.2 → LexK com l n' res.2.2.1 vs'
  stop : .none = tokV res.1 res.2.1 → vs = []
theorem LexK.step {com : Bool} {l : List Nat} {n : Nat} {vs : List V} (h : ∃ k ts, toks com k (l.drop n) = some ts ∧ vs = ts.map (fun t => .str (mkS t))) : ∃ res, LexStep com l n vs res := by
  obtain ⟨k, ts, hts, e⟩ := h
  subst e
  cases k with
  | zero => exact nomatch hts
  | succ k =>
    cases hrd : rd com (l.drop n) .sp false [] with
    | none =>
      have hts : (match rd com (l.drop n) .sp false [] with | none => none | some (q, t, ended, r) => if q = false ∧ t = [] then some [] else if ended then some [t] else (toks com k r).map (t :: ·)) = some ts := hts
      rw [hrd] at hts; exact nomatch hts
    | some res =>
      have hts : (match rd com (l.drop n) .sp false [] with | none => none | some (q, t, ended, r) => if q = false ∧ t = [] then some [] else if ended then some [t] else (toks com k r).map (t :: ·)) = some ts := hts
      rw [hrd] at hts
      obtain ⟨q, t, e, r⟩ := res
      have hts : (if q = false ∧ t = [] then some [] else if e = true then some [t] else (toks com k r).map (t :: ·)) = some ts := hts
      refine ⟨_, hrd, fun t' h3 => ?_, fun h3 => ?_⟩
      all_goals have h3 : _ = if q = false ∧ t = [] then V.none else .str (mkS t) := h3
      · by_cases hq : q = false ∧ t = []
        · rw [if_pos hq] at h3; exact nomatch h3
        rw [if_neg hq] at h3 hts
        rw [h3]
        cases e with
        | true =>
          have hr := rd_end hrd
          subst hr
          have hts := Option.some.inj hts
          subst hts
          exact ⟨[], rfl, fun n' h => .inr ⟨rfl, List.drop_eq_nil_iff.mp h, rfl⟩⟩
        | false =>
          obtain ⟨ts', h5, e⟩ := Option.map_eq_some_iff.mp hts
          subst e
          exact ⟨_, rfl, fun n' h => .inl ⟨rfl, k, ts', by rw [h]; exact h5, rfl⟩⟩
      · by_cases hq : q = false ∧ t = []
        · rw [if_pos hq] at hts
          have hts := Option.some.inj hts
          subst hts
          rfl
        · rw [if_neg hq] at h3; exact nomatch h3
theorem lex_own (P : Params) : OwnIt (KK P) 766 756 763 := ⟨by kernel_rfl!, by kernel_rfl!, by kernel_rfl!, by kernel_rfl!, by kernel_rfl!, by kernel_rfl!⟩
section
variable {prog : Program} {w : World} {mg mb : Str → Option Value} {os₀ : Glo} {f : FD} {loc : Loc}
/-- __next__, called: a word, or the end -/
theorem nx_call (hf : f.Ok (KK w.params) mg mb) {A' : Around} (hfr : A'.frames = f.A.frames) (hh : A'.handled = none) (hd : A'.depth < 700) (hu : A'.units < 7000) {st : St} {ρ : Lab} {s : Shared} {x : Addr} {k : V → St → Prop} {Rr : Result → Shared → Prop}
    (hsp : rtSpec [.ref 0] st k) (hR : R w os₀ f.h₀ f.L f.outs loc st ρ s) (hx : ρ.of 0 = some x)
    (q1 : ∀ t st' ρ' val s', k (.str t) st' → LabLe ρ ρ' → R w os₀ f.h₀ f.L f.outs loc st' ρ' s' → VR ρ' (.str t) val → Rr (.ok (.ret val)) s')
    (q2 : ∀ e st' ρ' s', k .none st' → LabLe ρ ρ' → R w os₀ f.h₀ f.L f.outs loc st' ρ' s' → s'.TypeIs (.ref e) "StopIteration" → Rr (.error (.ref e)) s') :
    codeAny (model prog w) A' (.call (.ref 763) ⟨[.ref x], []⟩) Rr s := by
  refine callR (ok_763 w.params) f hf hfr hh (by unfold recursionLimit; omega) hR (vs := [.ref 0]) (kvs := []) (.cons (.ref hx) .nil) .nil rfl rfl ?_
  intro f' f'ok hcs hdep hun hfr' ρ₁ s₁ le₁ hR₁ back
  have O := okE prog w (X := 770) (Nat.le_refl _)
  obtain ⟨com, state, ln, l, n, rest, rfl⟩ := hsp.shape
  show wpAny _ f'.A (execs (nxBody w.params) f'.env) _ _ s₁
  rw [← List.take_append_drop 1 (nxBody w.params)]
  refine wpAny_append ?_
  have hB : TB prog w os₀ f' ((nxBody w.params).take 1) [("self", .ref 0)] (lexS (comS com) state "" ln (mkS l) n rest) (fun fl loc' st' => fl = .next ∧ ∃ v com' state' ln' l', ∃ (n' : Nat) (rest' : _), (v = .none ∨ ∃ t, v = .str t) ∧ loc' = ([("self", .ref 0), ("token", v)] : Loc) ∧ st' = lexS (comS com') state' "" ln' (mkS l') n' rest' ∧ k v st') :=
    TB.of_run (X := 770) (n := 40) (by omega) O f'ok (by omega) (by omega) (by
      rw [hcs]
      exact nx_0 (hsp.mono fun v com' state' ln' l' n' rest' hv hk => ⟨rfl, v, com', state', ln', l', n', rest', hv, rfl, rfl, hk⟩))
  refine hB ρ₁ s₁ _ _ hR₁ fun fl loc' st' ρ' fv s' hk le hR' hfl => ?_
  have le := le₁.trans le
  obtain ⟨rfl, v, com', state', ln', l', n', rest', hv, rfl, rfl, hk⟩ := hk
  cases hfl
  dsimp only
  rcases hv with rfl | ⟨t, rfl⟩
  · rw [nx_rest]
    refine wpAny_execs_cons (wpAny_If ?_)
    refine (sound (mg := mg) (mb := mb) (os₀ := os₀) (by omega) O 40).T f' ⟨f'ok, by omega, by omega⟩ (p := []) (k' := fun c st'' => c = true ∧ st'' = lexS (comS com') state' "" ln' (mkS l') n' rest') (by rw [hcs]; exact nx_t (P := w.params) (kt := fun _ c st'' => c = true ∧ st'' = lexS (comS com') state' "" ln' (mkS l') n' rest') ⟨rfl, rfl⟩) (fun _ _ _ h => h) ρ' s' _ _ hR' fun c st₂ ρ₂ s₂ hk₂ le₂ hR₂ => ?_
    obtain ⟨rfl, rfl⟩ := hk₂
    rw [if_pos rfl]
    refine wpAny_execs_cons (owsi_raiseC f'ok.handled (hR₂.glob f'ok.gd O f'ok.kind (kindOf_of (by rw [hcs]; kernel_rfl!)) rfl rfl (by decide +kernel) (v := .ty "StopIteration") (by kernel_rfl!) fun val hval => ?_) fun h' e hx' => ?_)
    · cases hval; exact ⟨rfl, rfl⟩
    · refine hR₂.leaves f'ok hfr'.1 hfr'.2.1 (tk := s₂.toks) (Nat.le_refl _) hx'.of fun h₃ t hR₃ hfl _ _ => ?_
      obtain ⟨ob, h1, h2⟩ := hfl.there
      exact q2 e _ ρ₂ _ hk (le.trans le₂) (back _ _ _ _ (le.trans le₂) hR₃) ⟨ob, h1, h2⟩
  · have hB2 : TB prog w os₀ f' ((nxBody w.params).drop 1) [("self", .ref 0), ("token", .str t)] (lexS (comS com') state' "" ln' (mkS l') n' rest') (fun fl _ st' => fl = .ret (.str t) ∧ k (.str t) st') :=
      TB.of_run (X := 770) (n := 40) (by omega) O f'ok (by omega) (by omega) (by rw [hcs]; exact nx_1 ⟨rfl, hk⟩)
    refine hB2 ρ' s' _ _ hR' fun fl loc₂ st₂ ρ₂ fv s₂ hk₂ le₂ hR₂ hfl => ?_
    obtain ⟨rfl, hk₂⟩ := hk₂
    cases hfl with | ret hval => exact q1 t _ ρ₂ _ _ hk₂ (le.trans le₂) (back _ _ _ _ (le.trans le₂) hR₂) hval
theorem lex_nx (hf : f.Ok (KK w.params) mg mb) (hd : f.A.depth < 690) (hu : f.A.units < 6900) {A' : Around} (hA : Near f A') {vs : List V} {rest : List (Addr × Obj)} {ρ : Lab} {s : Shared} {x : Addr} {Rr : Result → Shared → Prop} {com : Bool} {l : List Nat} {n : Nat} {ln : Int} {ended : Bool}
    (hl : l.length ≤ sizeLine) (hnl : memN 10 l = false) (hn : n ≤ l.length) (hK : LexK com l n ended vs) (hR : R w os₀ f.h₀ f.L { f.outs with raw := rest } loc (lexS (comS com) (endV ended) "" ln (mkS l) n rest) ρ s) (hx : ρ.of 0 = some x)
    (q1 : ∀ v vs' (ln' : Int) (n' : Nat) e' ρ' val s', vs = v :: vs' → LexK com l n' e' vs' → n' ≤ l.length → LabLe ρ ρ' → R w os₀ f.h₀ f.L { f.outs with raw := rest } loc (lexS (comS com) (endV e') "" ln' (mkS l) n' rest) ρ' s' → VR ρ' v val → Rr (.ok (.ret val)) s')
    (q2 : ∀ e (ln' : Int) (n' : Nat) e' ρ' s', vs = [] → LabLe ρ ρ' → R w os₀ f.h₀ f.L { f.outs with raw := rest } loc (lexS (comS com) (endV e') "" ln' (mkS l) n' rest) ρ' s' → s'.TypeIs (.ref e) "StopIteration" → Rr (.error (.ref e)) s') :
    codeAny (model prog w) A' (.call (.ref 763) ⟨[.ref x], []⟩) Rr s := by
  have dd : A'.depth < 700 := hA.depth ▸ Nat.lt_of_lt_of_le hd (by decide)
  have uu : A'.units < 7000 := Nat.lt_of_le_of_lt hA.units (Nat.lt_of_lt_of_le (Nat.add_lt_add_right hu 9) (by decide))
  rcases hK with ⟨e, h⟩ | ⟨e, hn', e2⟩
  · subst e
    obtain ⟨res, S⟩ := LexK.step h
    refine nx_call (f := f.withRaw rest) (hf.withRaw rest) hA.frames hA.handled dd uu (k := fun v st' => ∃ (ln' : Int) (n' : Nat), (n' ≤ l.length ∧ l.drop n' = res.2.2.2) ∧ v = tokV res.1 res.2.1 ∧ st' = lexS (comS com) (endV res.2.2.1) "" ln' (mkS l) n' rest)
      ⟨rfl, com, l, n, ln, rest, hl, hnl, hn, .inl ⟨res, rfl, S.rd, fun ln' n' h1 h2 => ⟨ln', n', ⟨h1, h2⟩, rfl, rfl⟩⟩⟩ hR hx (fun t' st' ρ' val s' h le hR' hval => ?_) (fun e' st' ρ' s' h le hR' hT => ?_)
    · obtain ⟨ln', n', h1, h3, h4⟩ := h
      subst h4
      obtain ⟨vs', e, hk⟩ := S.word t' h3
      exact q1 _ vs' ln' n' _ ρ' val s' e (hk n' h1.2) h1.1 le hR' hval
    · obtain ⟨ln', n', h1, h3, h4⟩ := h
      subst h4
      exact q2 e' ln' n' _ ρ' s' (S.stop h3) le hR' hT
  · subst e e2
    refine nx_call (f := f.withRaw rest) (hf.withRaw rest) hA.frames hA.handled dd uu (k := fun v st' => v = .none ∧ st' = lexS (comS com) .none "" ln (mkS l) n rest) ⟨rfl, com, l, n, ln, rest, hl, hnl, hn, .inr ⟨rfl, hn', rfl, rfl⟩⟩ hR hx (fun t' st' ρ' val s' h _ _ _ => nomatch h.1) (fun e' st' ρ' s' h le hR' hT => ?_)
    have h4 := h.2
    subst h4
    exact q2 e' ln n true ρ' s' rfl le hR' hT
theorem lex_ob (hf : f.Ok (KK w.params) mg mb) (hd : f.A.depth < 690) (hu : f.A.units < 6900) {A' : Around} (hA : Near f A') {rest : List (Addr × Obj)} {ρ : Lab} {s : Shared} {x : Addr} {Rr : Result → Shared → Prop} {com buf : Str} {state : V} {n ln : Int}
    (hR : R w os₀ f.h₀ f.L { f.outs with raw := rest } loc (lexS com state "" ln buf n rest) ρ s) (hx : ρ.of 0 = some x)
    (q : ∀ ρ' s', LabLe ρ ρ' → R w os₀ f.h₀ f.L { f.outs with raw := rest } loc (lexS com state "" ln buf n rest) ρ' s' → Rr (.ok (.ret (.ref x))) s') : codeAny (model prog w) A' (.call (.ref 756) ⟨[.ref x], []⟩) Rr s := by
  have dd : A'.depth + 40 + 10 < 770 := hA.depth ▸ Nat.lt_of_lt_of_le (Nat.add_lt_add_right hd 50) (by decide)
  have uu : A'.units + 10 * 40 + 30 < 10 * 770 := Nat.lt_of_le_of_lt (Nat.add_le_add_right (Nat.add_le_add_right hA.units 400) 30) (Nat.lt_of_lt_of_le (Nat.add_lt_add_right hu 439) (by decide))
  refine (sound (mg := mg) (mb := mb) (os₀ := os₀) (X := 770) (by decide) (okE prog w (Nat.le_refl _)) 40).U (f.withRaw rest) (hf.withRaw rest) (A' := A') ⟨hA.frames, hA.handled, dd, uu⟩ (p := []) (k' := fun v st' => v = .ref 0 ∧ st' = lexS com state "" ln buf n rest) (it_u (ku := fun _ v st' => v = .ref 0 ∧ st' = lexS com state "" ln buf n rest) ⟨rfl, rfl⟩) (fun _ _ _ h => h) loc ρ s [.ref x] [] Rr hR (.cons (.ref hx) .nil) .nil rfl fun v st' ρ' val s' h le hR' hv => ?_
  have h1 := h.1
  have h2 := h.2
  subst h1 h2
  obtain ⟨c, e, hc⟩ := hv.inv
  rw [le.of _ _ hx] at hc
  rw [e, ← Option.some.inj hc]
  exact q _ _ le hR'
theorem lex_it (hf : f.Ok (KK w.params) mg mb) (hd : f.A.depth < 690) (hu : f.A.units < 6900) : ItOk prog w os₀ f loc 766 756 763 0 LexJ LexD where
  inst := fun vs objs next J => by
    obtain ⟨com, l, n, ln, ended, J⟩ := J.inv
    exact J.objs_ ▸ ⟨_, rfl⟩
  iter := fun A' hA vs objs next rest J ρ s x Rr hR hx q => by
    obtain ⟨com, l, n, ln, ended, J⟩ := J.inv
    have e1 := J.next_
    have e2 := J.objs_
    subst e1 e2
    exact lex_ob hf hd hu hA hR hx q
  next := fun A' hA vs objs next rest J ρ s x Rr hR hx q1 q2 => by
    obtain ⟨com, l, n, ln, ended, J⟩ := J.inv
    have e1 := J.next_
    have e2 := J.objs_
    subst e1 e2
    exact lex_nx hf hd hu hA J.hl J.hnl J.hn J.k hR hx (fun v vs' ln' n' e' ρ' val s' e k h1 le hR' hv => q1 v vs' _ 4 ρ' val s' e (LexA.J ⟨rfl, J.hl, J.hnl, h1, rfl, k⟩) le hR' hv) (fun e ln' n' e' ρ' s' h le hR' hT => q2 e _ 4 ρ' s' h rfl le hR' hT)
end
end Mine
end
section
open PySem PySem.W PyProof.Rows PySem.Calls
set_option Elab.async false
set_option maxRecDepth 100000
set_option maxHeartbeats 4000000
namespace Mine
noncomputable def lsSpec (vs : List V) (st : St) (k : V → St → Prop) : Prop := vs = [.ref 0] ∧ ∃ all, LexJ all st.objs st.next ∧ all.length ≤ sizeLine ∧ ∃ ss, all = ss.map .str ∧ ∀ objs', k (.trs ss) ⟨objs', 4⟩
theorem ls_spec (prog : Program) (w : World) {X : Nat} (hX : X ≤ 680) : BiSpec prog w (KK w.params) X (.type "list") lsSpec := by
  intro mg mb os₀ f hf hd hu vs st k h loc ρ s vals Q E hR hv q
  obtain ⟨rfl, all, hJ, hz, ss, rfl, hk⟩ := h
  cases hv with | cons a b => ?_
  cases b
  cases a with | ref hx => ?_
  obtain ⟨objs, next⟩ := st
  refine list_own hf (lex_own w.params) (lex_it hf (by omega) (by omega)) (rest := f.outs.raw) hz hJ hx hR (v := .trs ss) rfl (by simp [closedV]) fun objs' next' ρ' val s' hD le hR' hval => ?_
  have hD' : next' = 4 := hD
  subst hD'
  exact q _ _ ρ' _ s' (hk objs') le hR' hval
noncomputable def ΓF (P : Params) : Gam := { ΓE P with
  glob := ("shlex", .raw 766) :: ("list", .ty "list") :: (ΓE P).glob
  tyS := [("list", lsSpec)] }
theorem ok_globF (P : Params) : globTab (KK P) (ΓF P).glob = true := by kernel_rfl!
theorem okF (prog : Program) (w : World) {X : Nat} (hX : X ≤ 680) : (ΓF w.params).Ok prog w (KK w.params) X :=
  { okE prog w (X := X) (by omega) with
    glob := globTab_ok (ok_globF _)
    tyS := fun n sp h => by
      simp only [ΓF, List.mem_cons, List.not_mem_nil, or_false] at h
      cases h
      exact ls_spec prog w hX }
noncomputable def fn778 (P : Params) : FnI := mkFn (KK P) 778 1 [] [("s", .arg 0), ("comments", .const (.bool false) (.bool false)), ("posix", .const (.bool true) (.bool true))]
theorem ok_778 (P : Params) : FnOk (KK P) (fn778 P) := fn_1 (by kernel_rfl!) (by intro S a; kernel_rfl!) (by
  intro b hb
  simp only [List.mem_cons, List.not_mem_nil, or_false] at hb
  rcases hb with rfl | rfl | rfl
  · trivial
  · exact fun ρ => .bool _
  · exact fun ρ => .bool _)
noncomputable def spBody (P : Params) : List Stmt := bodyOf (fdAt (KK P) 778).body
noncomputable abbrev spN (P : Params) := (fdAt (KK P) 778).scope.names
/-- a claim that the elaborator does not look into -/
structure Wr (p : Prop) : Prop where
  out : p
theorem Wr.of_eq {p q : Prop} (e : p = q) (h : q) : Wr p := ⟨e.symm ▸ h⟩
/-! the kernel compares two long states item by item, where the one is written out first -/
noncomputable def nfN (n : Nat) (k : Nat → Prop) : Prop := match Nat.beq n 0 with
  | true => k 0
  | false => match Nat.beq n 1 with
  | true => k 1
  | false => match Nat.beq n 2 with
  | true => k 2
  | false => match Nat.beq n 3 with
  | true => k 3
  | false => match Nat.beq n 4 with
  | true => k 4
  | false => k n
theorem nfN_eq (n : Nat) (k : Nat → Prop) : nfN n k = k n := by
  unfold nfN
  cases h : Nat.beq n 0 with
  | true => rw [beq_eq h]
  | false =>
  cases h : Nat.beq n 1 with
  | true => rw [beq_eq h]
  | false =>
  cases h : Nat.beq n 2 with
  | true => rw [beq_eq h]
  | false =>
  cases h : Nat.beq n 3 with
  | true => rw [beq_eq h]
  | false =>
  cases h : Nat.beq n 4 with
  | true => rw [beq_eq h]
  | false => rfl
noncomputable def nfV (v : V) (k : V → Prop) : Prop := match v with
  | .ref n => nfN n (fun n => k (.ref n))
  | .bool true => k (.bool true)
  | .bool false => k (.bool false)
  | .str x => k (.str x)
  | .int i => k (.int i)
  | v => k v
theorem nfV_eq (v : V) (k : V → Prop) : nfV v k = k v := by
  unfold nfV
  split <;> first | rfl | exact nfN_eq _ _
noncomputable def nfL : List (Str × V) → (List (Str × V) → Prop) → Prop
  | [], k => k []
  | (x, v) :: r, k => nfV v (fun v => nfL r (fun r' => k ((x, v) :: r')))
noncomputable def nfO : List (Nat × O) → (List (Nat × O) → Prop) → Prop
  | [], k => k []
  | (n, .inst C as) :: r, k => nfN n (fun n => nfL as (fun as' => nfO r (fun r' => k ((n, .inst C as') :: r'))))
  | (n, o) :: r, k => nfN n (fun n => nfO r (fun r' => k ((n, o) :: r')))
noncomputable def nfSt (st : St) (k : St → Prop) : Prop := nfO st.objs (fun os => nfN st.next (fun n => k ⟨os, n⟩))
theorem nfL_eq : ∀ (l : List (Str × V)) (k : List (Str × V) → Prop), nfL l k = k l
  | [], _ => rfl
  | (_, v) :: r, k => by show nfV v _ = _; rw [nfV_eq, nfL_eq r]
theorem nfO_eq : ∀ (l : List (Nat × O)) (k : List (Nat × O) → Prop), nfO l k = k l
  | [], _ => rfl
  | (n, o) :: r, k => by
    cases o with
    | inst C as => show nfN n (fun n => nfL as _) = _; rw [nfN_eq, nfL_eq, nfO_eq r]
    | _ => show nfN n (fun n => nfO r _) = _; rw [nfN_eq, nfO_eq r]
theorem nfSt_eq (st : St) (k : St → Prop) : nfSt st k = k st := by unfold nfSt; rw [nfO_eq, nfN_eq]
section
variable {P : Params} {x : Str} {state v : V} {com token t : Str} {ln : Int} {buf : Str} {pos : Int} {rest : List (Addr × Obj)} {k : Path → Fl → Loc → St → Prop} {c : Bool}
noncomputable abbrev A0 : Prop := (Str.ofString "abcdfeghijklmnopqrstuvwxyzABCDEFGHIJKLMNOPQRSTUVWXYZ0123456789_").length + (Str.ofString "ßàáâãäåæçèéêëìíîïðñòóôõöøùúûüýþÿÀÁÂÃÄÅÆÇÈÉÊËÌÍÎÏÐÑÒÓÔÕÖØÙÚÛÜÝÞ").length ≤ sizeLine
theorem sp_ar : A0 := by
  show _ ≤ _
  rw [sizeLine_eq]; decide +kernel
theorem sp_0t_eq : (run (ΓF P) 70).B (spN P) [] [("s", .str x), ("comments", .bool true), ("posix", .bool true)] ⟨[], 0⟩ ((spBody P).take 4) (fun p fl loc st => nfSt st (k p fl loc)) =
    (A0 ∧ k [] .next [("s", .str x), ("comments", .bool true), ("posix", .bool true), ("lex", .ref 0)] (lexS "#" (.str " ") "" 1 x 0 rest)) := by kernel_rfl!
theorem sp_0t_eq2 : (run (ΓF P) 70).B (spN P) [] [("s", .str x), ("comments", .bool true), ("posix", .bool true)] ⟨[], 0⟩ ((spBody P).take 4) k =
    (A0 ∧ k [] .next [("s", .str x), ("comments", .bool true), ("posix", .bool true), ("lex", .ref 0)] (lexS "#" (.str " ") "" 1 x 0 rest)) := by
  have e : (fun (p : Path) fl loc st => nfSt st (k p fl loc)) = k := by funext p fl loc st; exact nfSt_eq _ _
  rw [← e, sp_0t_eq (rest := rest)]
  show _ = (A0 ∧ nfSt _ _)
  rw [nfSt_eq]
theorem sp_0f_eq : (run (ΓF P) 70).B (spN P) [] [("s", .str x), ("comments", .bool false), ("posix", .bool true)] ⟨[], 0⟩ ((spBody P).take 4) (fun p fl loc st => nfSt st (k p fl loc)) =
    (A0 ∧ k [] .next [("s", .str x), ("comments", .bool false), ("posix", .bool true), ("lex", .ref 0)] (lexS "" (.str " ") "" 1 x 0 rest)) := by kernel_rfl!
theorem sp_0f_eq2 : (run (ΓF P) 70).B (spN P) [] [("s", .str x), ("comments", .bool false), ("posix", .bool true)] ⟨[], 0⟩ ((spBody P).take 4) k =
    (A0 ∧ k [] .next [("s", .str x), ("comments", .bool false), ("posix", .bool true), ("lex", .ref 0)] (lexS "" (.str " ") "" 1 x 0 rest)) := by
  have e : (fun (p : Path) fl loc st => nfSt st (k p fl loc)) = k := by funext p fl loc st; exact nfSt_eq _ _
  rw [← e, sp_0f_eq (rest := rest)]
  show _ = (A0 ∧ nfSt _ _)
  rw [nfSt_eq]
theorem sp_4_eq : (run (ΓF P) 70).B (spN P) [] [("s", .str x), ("comments", .bool c), ("posix", .bool true), ("lex", .ref 0)] (lexS com state token ln buf pos rest) ((spBody P).drop 4) k =
    lsSpec [.ref 0] (lexS com state token ln buf pos rest) (fun v st' => k [] (.ret v) [("s", .str x), ("comments", .bool c), ("posix", .bool true), ("lex", .ref 0)] st') := by kernel_rfl!
end
/-- the words of a line, as split gives them -/
noncomputable def SplitOut (com : Bool) (x : V) (ws : List Str) : Prop := ∃ l k ts, x = .str (mkS l) ∧ l.length ≤ sizeLine ∧ memN 10 l = false ∧ toks com k l = some ts ∧ ts.length ≤ sizeLine ∧ ws = ts.map mkS
section
variable {prog : Program} {w : World} {mg mb : Str → Option Value} {os₀ : Glo} {f : FD}
theorem tbs (hf : f.Ok (KK w.params) mg mb) (hcs : f.cs = (fdAt (KK w.params) 778).scope) (hd : f.A.depth < 600) (hu : f.A.units < 6000) {p : Path} {b : List Stmt} {loc : Loc} {st : St} {k : Fl → Loc → St → Prop}
    (h : Wr ((run (ΓF w.params) 70).B (spN w.params) p loc st b (fun _ => k))) : TB prog w os₀ f b loc st k :=
  TB.of_run (X := 680) (n := 70) (by omega) (okF prog w (Nat.le_refl _)) hf (by omega) (by omega) (by rw [hcs]; exact h.out)
theorem sp_ok (hf : f.Ok (KK w.params) mg mb) (hcs : f.cs = (fdAt (KK w.params) 778).scope) (hd : f.A.depth < 600) (hu : f.A.units < 6000) {com : Bool} {x : V} {ws : List Str} (h : SplitOut com x ws) :
    TB prog w os₀ f (spBody w.params) [("s", x), ("comments", .bool com), ("posix", .bool true)] ⟨[], 0⟩ (fun fl _ _ => fl = .ret (.trs ws)) := by
  obtain ⟨l, k, ts, rfl, hl, hnl, hts, hz, rfl⟩ := h
  rw [← List.take_append_drop 4 (spBody w.params)]
  refine TB.append ?_
  cases com with
  | true =>
    have h2 : TB prog w os₀ f ((spBody w.params).drop 4) [("s", .str (mkS l)), ("comments", .bool true), ("posix", .bool true), ("lex", .ref 0)] (lexS "#" (.str " ") "" 1 (mkS l) 0 []) (fun fl _ _ => fl = .ret (.trs (ts.map mkS))) :=
      tbs hf hcs hd hu (p := []) (Wr.of_eq sp_4_eq ⟨rfl, _, ⟨rfl, true, l, 0, 1, false, hl, hnl, Nat.zero_le _, rfl, .inl ⟨rfl, k, ts, by simpa using hts, rfl⟩⟩, by simpa using hz, ts.map mkS, by simp, fun objs' => rfl⟩)
    exact tbs hf hcs hd hu (p := []) (Wr.of_eq (sp_0t_eq2 (rest := [])) ⟨sp_ar, h2⟩)
  | false =>
    have h2 : TB prog w os₀ f ((spBody w.params).drop 4) [("s", .str (mkS l)), ("comments", .bool false), ("posix", .bool true), ("lex", .ref 0)] (lexS "" (.str " ") "" 1 (mkS l) 0 []) (fun fl _ _ => fl = .ret (.trs (ts.map mkS))) :=
      tbs hf hcs hd hu (p := []) (Wr.of_eq sp_4_eq ⟨rfl, _, ⟨rfl, false, l, 0, 1, false, hl, hnl, Nat.zero_le _, rfl, .inl ⟨rfl, k, ts, by simpa using hts, rfl⟩⟩, by simpa using hz, ts.map mkS, by simp, fun objs' => rfl⟩)
    exact tbs hf hcs hd hu (p := []) (Wr.of_eq (sp_0f_eq2 (rest := [])) ⟨sp_ar, h2⟩)
end
noncomputable def spSpec (vs kvs : List V) (st : St) (k : V → St → Prop) : Prop := ∃ x ws, vs = [x] ∧ kvs = [] ∧ SplitOut false x ws ∧ k (.trs ws) st
theorem SplitOut.closed {com : Bool} {x : V} {ws : List Str} (h : SplitOut com x ws) : closedV x = true := by
  obtain ⟨l, k, ts, rfl, -⟩ := h
  rfl
theorem sp_spec (prog : Program) (w : World) {X : Nat} (hX : X ≤ 590) : SpecKOk prog w (KK w.params) X 778 [] spSpec := by
  refine specK_iso (i := fn778 w.params) (out := fun vs kvs v => ∃ x ws, vs = [x] ∧ kvs = [] ∧ SplitOut false x ws ∧ v = .trs ws) (by omega) (ok_778 _) ?_ ?_ rfl ?_
  · kernel_rfl!
  · rintro vs kvs st k ⟨x, ws, rfl, rfl, h, hk⟩
    exact ⟨rfl, by simp [h.closed], rfl, .trs ws, rfl, ⟨x, ws, rfl, rfl, h, rfl⟩, hk⟩
  · rintro mg mb os₀ f hf hcs hd hu vs kvs v ⟨x, ws, rfl, rfl, h, rfl⟩
    exact sp_ok hf hcs (by omega) (by omega) h
end Mine
end
section
open PySem PySem.W PyProof.Rows PySem.Calls
set_option Elab.async false
set_option maxRecDepth 100000
set_option maxHeartbeats 4000000
namespace Mine
/-! contracts that compute -/
theorem BiSpec.of {prog : Program} {w : World} {K : Frag} {X : Nat} {c : Value} {sp sp' : List V → St → (V → St → Prop) → Prop} (H : BiSpec prog w K X c sp) (h : ∀ vs st k, sp' vs st k → sp vs st k) : BiSpec prog w K X c sp' :=
  fun mg mb os₀ f hf hd hu vs st k hk => H mg mb os₀ f hf hd hu vs st k (h _ _ _ hk)
noncomputable def sumF (vs : List V) (st : St) (k : V → St → Prop) : Prop := match vs with
  | [v] => (match numsOf st v with | some ns => k (.int ns.sum) st | none => False)
  | _ => False
noncomputable def rngF (vs : List V) (st : St) (k : V → St → Prop) : Prop := match vs with
  | [.int (.ofNat n)] => k (.rng n) st
  | _ => False
section
variable {prog : Program} {w : World} {K : Frag} {X : Nat}
theorem sumF_ok : BiSpec prog w K X (.builtin "sum") sumF := sum_spec.of fun vs st k h => by
  unfold sumF at h
  split at h
  · split at h
    · exact ⟨_, _, rfl, by assumption, h⟩
    · exact h.elim
  · exact h.elim
theorem rngF_ok : BiSpec prog w K X (.type "range") rngF := rng_spec.of fun vs st k h => by
  unfold rngF at h
  split at h
  · exact ⟨_, rfl, h⟩
  · exact h.elim
end
theorem cell64 (P : Params) : (mdI P 64).cell = [] := by kernel_rfl!
theorem cell71 (P : Params) : (mdI P 71).cell = [] := by kernel_rfl!
theorem cell78 (P : Params) : (mdI P 78).cell = [] := by kernel_rfl!
theorem getA_append {α : Type} {y : Str} {v : α} : ∀ {l r : List (Str × α)}, getA y l = some v → getA y (l ++ r) = some v
  | (x, u) :: l, r, h => by
    simp only [List.cons_append, getA] at h ⊢
    cases e : sEq y x with
    | true => rw [e] at h; exact h
    | false => rw [e] at h; exact getA_append h
theorem sub_putA {l l' : Loc} (h : ∀ y v, getA y l = some v → getA y l' = some v) (x : Str) (u : V) : ∀ y v, getA y (putA x u l) = some v → getA y (putA x u l') = some v := by
  intro y v e
  rw [getA_putA] at e ⊢
  cases hxy : sEq y x with
  | true => rw [hxy] at e; exact e
  | false => rw [hxy] at e; exact h y v e
section
variable {prog : Program} {w : World} {os₀ : Glo} {f : FD}
theorem TB.weak {b : List Stmt} {loc loc' : Loc} {st : St} {k : Fl → Loc → St → Prop} (h : TB prog w os₀ f b loc' st k) (hs : ∀ y v, getA y loc' = some v → getA y loc = some v) : TB prog w os₀ f b loc st k :=
  fun ρ s Q Ex hR q => h ρ s Q Ex (hR.weak hs) q
end
end Mine
end
section
open PySem PySem.W PyProof.Rows PySem.Calls
set_option Elab.async false
set_option maxRecDepth 100000
namespace Mine
/-! a table with a symbolic number of int lists, labelled m, m + 1, .. -/
noncomputable def rowsTab (mk : List Int → O) (m : Nat) : List (List Int) → List (Nat × O) → List (Nat × O)
  | [], b => b
  | r :: rs, b => rowsTab mk (m + 1) rs ((m, mk r) :: b)
theorem beq_ne {a b : Nat} (h : Nat.beq a b = false) : ¬a = b := fun e => by
  subst e
  rw [Nat.beq_refl] at h
  exact nomatch h
theorem getO_cons (k j : Nat) (o : O) (b : List (Nat × O)) : getO k ((j, o) :: b) = if k = j then some o else getO k b := by
  show (match Nat.beq k j with | true => some o | false => getO k b) = _
  cases e : Nat.beq k j with
  | true => rw [if_pos (beq_eq e)]
  | false => rw [if_neg (beq_ne e)]
theorem putO_cons (k j : Nat) (o x : O) (b : List (Nat × O)) : putO k x ((j, o) :: b) = if k = j then (j, x) :: b else (j, o) :: putO k x b := by
  show (match Nat.beq k j with | true => (j, x) :: b | false => (j, o) :: putO k x b) = _
  cases e : Nat.beq k j with
  | true => rw [if_pos (beq_eq e)]
  | false => rw [if_neg (beq_ne e)]
section
variable {mk : List Int → O}
theorem rowsTab_snoc (r : List Int) {rs : List (List Int)} : ∀ {m : Nat} {b : List (Nat × O)}, rowsTab mk m (rs ++ [r]) b = (m + rs.length, mk r) :: rowsTab mk m rs b := by
  induction rs with
  | nil => intro m b; rfl
  | cons x rs ih =>
    intro m b
    show rowsTab mk (m + 1) (rs ++ [r]) ((m, mk x) :: b) = _
    rw [ih, List.length_cons, Nat.add_right_comm m 1 rs.length]
    rfl
theorem getO_base {k : Nat} {rs : List (List Int)} : ∀ {m : Nat} {b : List (Nat × O)}, k < m → getO k (rowsTab mk m rs b) = getO k b := by
  induction rs with
  | nil => exact fun _ => rfl
  | cons x rs ih =>
    intro m b h
    exact (ih (Nat.lt_succ_of_lt h)).trans ((getO_cons ..).trans (if_neg (Nat.ne_of_lt h)))
theorem getO_rows {i : Nat} {rs : List (List Int)} : ∀ {m : Nat} {b : List (Nat × O)} {r : List Int}, rs[i]? = some r → getO (m + i) (rowsTab mk m rs b) = some (mk r) := by
  induction rs generalizing i with
  | nil => exact fun h => nomatch h
  | cons x rs ih =>
    intro m b r h
    cases i with
    | zero =>
      have e := Option.some.inj h
      subst e
      exact (getO_base (Nat.lt_succ_self m)).trans ((getO_cons ..).trans (if_pos rfl))
    | succ i =>
      have := ih (m := m + 1) (b := (m, mk x) :: b) (i := i) h
      rw [Nat.add_right_comm] at this
      exact this
theorem putO_base {k : Nat} {o : O} {rs : List (List Int)} : ∀ {m : Nat} {b : List (Nat × O)}, k < m → putO k o (rowsTab mk m rs b) = rowsTab mk m rs (putO k o b) := by
  induction rs with
  | nil => exact fun _ => rfl
  | cons x rs ih =>
    intro m b h
    refine (ih (Nat.lt_succ_of_lt h)).trans ?_
    rw [putO_cons, if_neg (Nat.ne_of_lt h)]
    rfl
theorem putO_rows {i : Nat} {r' : List Int} {rs : List (List Int)} : ∀ {m : Nat} {b : List (Nat × O)}, i < rs.length → putO (m + i) (mk r') (rowsTab mk m rs b) = rowsTab mk m (rs.set i r') b := by
  induction rs generalizing i with
  | nil => exact fun h => absurd h (Nat.not_lt_zero _)
  | cons x rs ih =>
    intro m b h
    cases i with
    | zero =>
      refine (putO_base (Nat.lt_succ_self m)).trans ?_
      rw [putO_cons]
      exact congrArg (rowsTab mk (m + 1) rs) (if_pos rfl)
    | succ i =>
      have := ih (m := m + 1) (b := (m, mk x) :: b) (i := i) (Nat.lt_of_succ_lt_succ h)
      rw [Nat.add_right_comm] at this
      exact this
end
end Mine
end
section
open PySem PySem.W PyProof.Rows PySem.Calls
set_option Elab.async false
set_option maxRecDepth 100000
set_option maxHeartbeats 4000000
namespace Mine
/-! comprehensions: a local target, a cell -/
theorem putA_keep {x : Str} {v : V} {loc : Loc} (h : getA x loc = none) (y : Str) (u : V) (e : getA y loc = some u) : getA y (putA x v loc) = some u := by
  rw [getA_putA]
  cases hxy : sEq y x with
  | true => rw [sEq_iff.mp hxy, h] at e; exact no' e
  | false => exact e
theorem freeLoc_not {loc : Loc} {x : Str} {l : List Str} (h : x ∉ l) : getA x (freeLoc loc l) = none := by
  cases e : getA x (freeLoc loc l) with
  | none => rfl
  | some v => exact absurd (freeLoc_get e).1 h
noncomputable def refs (m n : Nat) : List V := (List.range n).map fun j => .ref (m + j)
theorem refs_succ (m n : Nat) : refs m (n + 1) = refs m n ++ [.ref (m + n)] := by
  unfold refs
  rw [List.range_succ, List.map_append]; rfl
noncomputable def repTab (cs : List Int) (m n : Nat) (b : List (Nat × O)) : List (Nat × O) := rowsTab .nums m (List.replicate n cs) b
theorem repTab_succ (cs : List Int) (m n : Nat) (b : List (Nat × O)) : repTab cs m (n + 1) b = (m + n, .nums cs) :: repTab cs m n b := by
  unfold repTab
  rw [List.replicate_succ', rowsTab_snoc, List.length_replicate]
section
variable {prog : Program} {w : World} {K : Frag} {mg mb : Str → Option Value} {os₀ : Glo} {f : FD} {loc : Loc} {st : St}
theorem CT.plain (hf : f.Ok K mg mb) {elt iter : Expr} {x : Str} {px : Pos} {scope : Scope} {pos : Pos} (hg : compGoodC f.cs.names scope.names = true) (hc : cellNames scope.names = []) (hx : getA x scope.names = some .local) (hkind : scope.kind = .function) (hset : noSet iter = true)
    (J : List V → List V → St → Prop) {k : V → St → Prop} (hi : TE prog w os₀ f iter loc st (fun v st' => st' = st ∧ ∃ items, iterV v = some items ∧ J items [] st))
    (turn : ∀ f' : FD, f'.Ok K mg mb → f'.cs.names = relNames f.cs.names scope.names → f'.A = f.A → ∀ v vs acc st', J (v :: vs) acc st' → TE prog w os₀ f' elt (putA x v (freeLoc loc (freeNames scope.names))) st' (fun u st' => J vs (acc ++ [u]) st'))
    (done : ∀ acc st', J [] acc st' → CFin k acc st') : CT prog w os₀ f (.ListComp elt [⟨.Name x px, iter, [], 0⟩] scope pos) loc st k := by
  refine CT.core hf hg hkind hset rfl J (bl := fun v => putA x v (freeLoc loc (freeNames scope.names))) (bs := fun _ st => st) (by rw [hc]; exact hi) (fun f' hf' hn raw v vs acc st' hJ ρ s val Q E hR hv q => ?_) (fun v => ?_) turn done
  · have hx' : f'.cs.names.lookup x = some .local := by rw [lookup_getA, hn, relNames_get, hx]; rfl
    rw [hc] at hR
    exact R.store hR (env := f'.env) hv rfl hf'.kind hx' (hf'.loc _ hx') q
  · rw [hc]
    exact putA_keep (freeLoc_not ((compC hf hg).locs x hx))
theorem CT.cell (hf : f.Ok K mg mb) {elt iter : Expr} {x : Str} {px : Pos} {scope : Scope} {pos : Pos} (hg : compGoodC f.cs.names scope.names = true) (hc : cellNames scope.names = [x]) (hkind : scope.kind = .function) (hset : noSet iter = true)
    (J : List V → List V → St → Prop) {k : V → St → Prop} (hi : TE prog w os₀ f iter loc st (fun v st' => st' = st ∧ ∃ items, iterV v = some items ∧ J items [] ⟨(st.next, .cell none) :: st.objs, st.next + 1⟩))
    (hJ : ∀ v vs acc st', J (v :: vs) acc st' → ∃ o, getO st.next st'.objs = some (.cell o))
    (turn : ∀ f' : FD, f'.Ok K mg mb → f'.cs.names = relNames f.cs.names scope.names → f'.A = f.A → ∀ v vs acc st', J (v :: vs) acc st' → TE prog w os₀ f' elt ((x, .ref st.next) :: freeLoc loc (freeNames scope.names)) ⟨putO st.next (.cell (some v)) st'.objs, st'.next⟩ (fun u st' => J vs (acc ++ [u]) st'))
    (done : ∀ acc st', J [] acc st' → CFin k acc st') : CT prog w os₀ f (.ListComp elt [⟨.Name x px, iter, [], 0⟩] scope pos) loc st k := by
  refine CT.core hf hg hkind hset (loc₀ := (x, .ref st.next) :: freeLoc loc (freeNames scope.names)) (by rw [hc]; rfl) J (bl := fun _ => (x, .ref st.next) :: freeLoc loc (freeNames scope.names)) (bs := fun v st' => ⟨putO st.next (.cell (some v)) st'.objs, st'.next⟩) (by rw [hc]; exact hi) (fun f' hf' hn raw v vs acc st' h ρ s val Q E hR hv q => ?_) (fun v _ _ h => h) turn done
  have hx : getA x scope.names = some .cell := (compC hf hg).cell x (by rw [hc]; exact .head _)
  have hx' : f'.cs.names.lookup x = some .cell := by rw [lookup_getA, hn, relNames_get, hx]; rfl
  obtain ⟨c, hcl⟩ := hf'.cel _ hx'
  obtain ⟨o, ho⟩ := hJ _ _ _ _ h
  exact R.storeCell hR (env := f'.env) hv hf'.kind hx' hcl rfl (show getA x ((x, V.ref st.next) :: _) = _ by show (match sEq x x with | true => some (V.ref st.next) | false => _) = _; rw [sEq_self]) ho q
/-- each item by itself -/
theorem CT.map (hf : f.Ok K mg mb) {elt iter : Expr} {x : Str} {px : Pos} {scope : Scope} {pos : Pos} {items : List V} {g : V → V} (hg : compGoodC f.cs.names scope.names = true) (hc : cellNames scope.names = []) (hx : getA x scope.names = some .local) (hkind : scope.kind = .function) (hset : noSet iter = true) {k : V → St → Prop}
    (hi : TE prog w os₀ f iter loc st (fun v st' => st' = st ∧ iterV v = some items))
    (helt : ∀ f' : FD, f'.Ok K mg mb → f'.cs.names = relNames f.cs.names scope.names → f'.A = f.A → ∀ v ∈ items, TE prog w os₀ f' elt (putA x v (freeLoc loc (freeNames scope.names))) st (fun u st' => u = g v ∧ st' = st))
    (done : CFin k (items.map g) st) : CT prog w os₀ f (.ListComp elt [⟨.Name x px, iter, [], 0⟩] scope pos) loc st k := by
  refine CT.plain hf hg hc hx hkind hset (fun vs acc st' => st' = st ∧ ∃ dn, items = dn ++ vs ∧ acc = dn.map g) (TE.mono hi fun v st' h => ?_) (fun f' hf' hcs hA v vs acc st' h => ?_) (fun acc st' h => ?_)
  · exact ⟨h.1, items, h.2, rfl, [], rfl, rfl⟩
  · obtain ⟨e, dn, e1, e2⟩ := h
    subst e e2
    refine TE.mono (helt f' hf' hcs hA v (e1 ▸ List.mem_append_right _ (.head _))) fun u st' h => ⟨h.2, dn ++ [v], ?_, ?_⟩
    · rw [e1, List.append_assoc]; rfl
    · rw [h.1, List.map_append]; rfl
  · obtain ⟨e, dn, e1, e2⟩ := h
    rw [List.append_nil] at e1
    subst e e1 e2
    exact done
/-- the same int list, made anew for each item -/
theorem CT.rows (hf : f.Ok K mg mb) {elt iter : Expr} {x : Str} {px : Pos} {scope : Scope} {pos : Pos} {n : Nat} {cs : List Int} (hg : compGoodC f.cs.names scope.names = true) (hc : cellNames scope.names = []) (hx : getA x scope.names = some .local) (hkind : scope.kind = .function) (hset : noSet iter = true) {k : V → St → Prop}
    (hi : TE prog w os₀ f iter loc st (fun v st' => st' = st ∧ ∃ items, iterV v = some items ∧ items.length = n))
    (helt : ∀ f' : FD, f'.Ok K mg mb → f'.cs.names = relNames f.cs.names scope.names → f'.A = f.A → ∀ v i, TE prog w os₀ f' elt (putA x v (freeLoc loc (freeNames scope.names))) ⟨repTab cs st.next i st.objs, st.next + i⟩ (fun u st'' => u = .ref (st.next + i) ∧ st'' = ⟨(st.next + i, .nums cs) :: repTab cs st.next i st.objs, st.next + i + 1⟩))
    (done : k (.ref (st.next + n)) ⟨(st.next + n, .list (refs st.next n)) :: repTab cs st.next n st.objs, st.next + n + 1⟩) :
    CT prog w os₀ f (.ListComp elt [⟨.Name x px, iter, [], 0⟩] scope pos) loc st k := by
  refine CT.plain hf hg hc hx hkind hset (fun vs acc st' => ∃ i, acc = refs st.next i ∧ vs.length + i = n ∧ st' = ⟨repTab cs st.next i st.objs, st.next + i⟩) (TE.mono hi fun v st' h => ?_) (fun f' hf' hcs hA v vs acc st' h => ?_) (fun acc st' h => ?_)
  · obtain ⟨e, items, h1, h2⟩ := h
    exact ⟨e, items, h1, 0, rfl, h2, rfl⟩
  · obtain ⟨i, e1, e2, e3⟩ := h
    subst e1 e3
    refine TE.mono (helt f' hf' hcs hA v i) fun u st'' h => ?_
    obtain ⟨e4, e5⟩ := h
    subst e4 e5
    refine ⟨i + 1, (refs_succ ..).symm, ?_, ?_⟩
    · rw [← e2, List.length_cons, Nat.add_right_comm]; rfl
    · rw [repTab_succ]; rfl
  · obtain ⟨i, e1, e2, e3⟩ := h
    rw [List.length_nil, Nat.zero_add] at e2
    subst e1 e2 e3
    exact .list done
end
end Mine
end
section
open PySem PySem.W PyProof.Rows PySem.Calls PySem.SeqAt
set_option Elab.async false
set_option maxRecDepth 100000
set_option maxHeartbeats 4000000
namespace Mine
/-! single steps, for tables that aren't written out -/
theorem meth_sub {M : Model} {A : Around} {E : Value → Shared → Prop} {s : Shared} {env : Env} {o i : Expr} {sp : Pos} {name : Str} {ap pos : Pos} {args : List Expr} {Q : Value → Shared → Prop}
    (hp : allPlain args = true) (hl : ap.endLine = pos.line) (hn : args.length + 1 ≤ 29)
    (h : wpAny M A (eval (.Subscript o i sp) env) (fun ov s₁ => wpAny M A (getMethod ov name (do return (← importBound (.Subscript o i sp) env).getD true)) (fun fx s₂ => wpAny M A (callWith pos fx.1 fx.2 (backTo pos (starEach args env)) (backToKw pos (keywordEach [] env))) Q E s₂) E s₁) E s) :
    wpAny M A (eval (.Call (.Attribute (.Subscript o i sp) name ap) args [] pos) env) Q E s := by
  have e2 : eval (.Call (.Attribute (.Subscript o i sp) name ap) args [] pos) env = (do
      let ov ← eval (.Subscript o i sp) env
      standAt ap.atName
      methodCall (.Subscript o i sp) name ap pos env ov (args.length + ([] : List Keyword).length) (backTo pos (starEach args env)) (backToKw pos (keywordEach [] env))) := rfl
  rw [e2]
  refine wpAny_bind (wpAny_mono h (fun ov s₁ h₁ => wpAny_bind (wpAny_standAt ?_)) fun _ _ x => x)
  unfold methodCall
  rw [form_ok (kws := []) (Bool.and_eq_true_iff.mpr ⟨hp, rfl⟩) hn]
  refine wpAny_bind (wpAny_holding (wpAny_mono h₁ (fun fx s₂ h₂ => ?_) fun _ _ x => x))
  have e3 : methodCallPos true (.Subscript o i sp) env ap pos = pure pos := by
    unfold methodCallPos
    rw [hl, show (!true || pos.line == pos.line) = true by rw [beq_self_eq_true]; rfl]
    rfl
  show wpAny M A (methodCallPos true (.Subscript o i sp) env ap pos >>= _) Q E s₂
  rw [e3]
  exact wpAny_bind (wpAny_pure h₂)
section
variable {prog : Program} {w : World} {K : Frag} {mg mb : Str → Option Value} {os₀ : Glo} {f : FD} {loc : Loc} {st : St}
theorem TE.var (hf : f.Ok K mg mb) {x : Str} {p : Pos} {v : V} {k : V → St → Prop} (hx : getA x f.cs.names = some .local) (hd : sEq x "__debug__" = false) (hv : getA x loc = some v) (h : k v st) : TE prog w os₀ f (.Name x p) loc st k :=
  fun ρ s Q Ex hR q => hR.name rfl hf.kind (kindOf_of hx) (hf.loc _ (kindOf_of hx)) hd hv fun val hval => q _ _ _ _ _ h (.refl _) hR hval
theorem TE.varC (hf : f.Ok K mg mb) {x : Str} {p : Pos} {v : V} {j : Nat} {k : V → St → Prop} (hx : getA x f.cs.names = some .cell) (hd : sEq x "__debug__" = false) (hv : getA x loc = some (.ref j)) (ho : getO j st.objs = some (.cell (some v))) (h : k v st) : TE prog w os₀ f (.Name x p) loc st k := by
  intro ρ s Q Ex hR q
  obtain ⟨c, hc⟩ := hf.cel _ (kindOf_of hx)
  exact hR.nameCell hf.kind (kindOf_of hx) hc rfl hd hv ho fun val hval => q _ _ _ _ _ h (.refl _) hR hval
theorem TE.idx {o i : Expr} {p : Pos} {k : V → St → Prop} (hi : asSlice i = none) (hp : plainIdx i = true) (h : TE prog w os₀ f o loc st fun ov st1 => TE prog w os₀ f i loc st1 fun iv st2 => sf (asI iv) fun n => stIdx false st2 ov n (fun v => k v st2)) : TE prog w os₀ f (.Subscript o i p) loc st k := by
  intro ρ s Q Ex hR q
  refine Subscript_ (h ρ s _ Ex hR fun ov st₁ ρ₁ vo s₁ h₁ le₁ hR₁ ho => h₁ ρ₁ s₁ _ Ex hR₁ fun iv st₂ ρ₂ vi s₂ h₂ le₂ hR₂ hi => ?_)
  obtain ⟨n, hn, h⟩ := sf_ok h₂
  obtain ⟨vs, v, e1, X, g⟩ := idx_ok h
  rw [asI_ok hn] at hi
  obtain ⟨t, e⟩ := hi.inv
  rw [e]
  exact item_wp hR₂ (ho.mono le₂) hp e1 X fun val hval => q _ _ _ _ _ g (le₁.trans le₂) hR₂ hval
theorem TT.cmp (hf : f.Ok K mg mb) (hu : f.A.units + 70 < cLine) {l x : Expr} {op : CmpOp} {pos : Pos} {k : Bool → St → Prop} (hn : noSet x = true) (h : TE prog w os₀ f l loc st fun a st1 => TE prog w os₀ f x loc st1 fun b st2 => stCmp st2 op a b (fun c => k c st2)) : TT prog w os₀ f (.Compare l [op] [x] pos) loc st k := by
  intro ρ s Q Ex hR q
  refine wpAny_isTrue_Compare1 (h ρ s _ Ex hR fun a st₁ ρ₁ va s₁ h₁ le₁ hR₁ ha => h₁ ρ₁ s₁ _ Ex hR₁ fun b st₂ ρ₂ vb s₂ h₂ le₂ hR₂ hb => ?_) (noSet_marks hn)
  exact stCmp_sound h₂ hR₂ (booked_keeps hf.gd.booked hR₂.keep) (ha.mono le₂) hb hu fun c h => wpAny_truthy_bool (q _ _ _ _ h (le₁.trans le₂) hR₂)
theorem TT.or2 {a b : Expr} {pos : Pos} {k : Bool → St → Prop} (h : TT prog w os₀ f a loc st fun c st1 => match c with | true => k true st1 | false => TT prog w os₀ f b loc st1 k) : TT prog w os₀ f (.BoolOp .Or [a, b] pos) loc st k := by
  intro ρ s Q Ex hR q
  refine isTrue_or (h ρ s _ Ex hR fun c st₁ ρ₁ s₁ h₁ le₁ hR₁ => ?_)
  cases c with
  | true => exact q _ _ _ _ h₁ le₁ hR₁
  | false =>
    refine isTrue_or (h₁ ρ₁ s₁ _ Ex hR₁ fun c st₂ ρ₂ s₂ h₂ le₂ hR₂ => ?_)
    cases c with
    | true => exact q _ _ _ _ h₂ (le₁.trans le₂) hR₂
    | false => exact isTrue_or_nil (q _ _ _ _ h₂ (le₁.trans le₂) hR₂)
theorem TS.ite {t : Expr} {b o : List Stmt} {pos : Pos} {k : Fl → Loc → St → Prop} (h : TT prog w os₀ f t loc st fun c st1 => match c with | true => TB prog w os₀ f b loc st1 k | false => TB prog w os₀ f o loc st1 k) : TS prog w os₀ f (.If t b o pos) loc st k := by
  intro ρ s Q Ex hR q
  refine wpAny_If (h ρ s _ Ex hR fun c st₁ ρ₁ s₁ h₁ le₁ hR₁ => ?_)
  cases c <;> exact h₁ ρ₁ s₁ Q Ex hR₁ (q.trans le₁)
theorem TS.asg (hf : f.Ok K mg mb) {y : Str} {py pos : Pos} {e : Expr} {k : Fl → Loc → St → Prop} (hc : noComp e = true) (hy : getA y f.cs.names = some .local) (h : TE prog w os₀ f e loc st fun v st1 => k .next (putA y v loc) st1) : TS prog w os₀ f (.Assign [.Name y py] e pos) loc st k :=
  fun ρ s Q Ex hR q => wpAny_Assign_Name (h ρ s _ Ex hR fun v st₁ ρ₁ val s₁ h₁ le₁ hR₁ hv => hR₁.store (env := f.env) hv rfl hf.kind (kindOf_of hy) (hf.loc _ (kindOf_of hy)) fun s' hR' => q _ _ _ _ _ _ h₁ le₁ hR' .next) (swap_plain hc)
/-- name = value, the name a cell -/
theorem TS.asgC (hf : f.Ok K mg mb) {y : Str} {py pos : Pos} {e : Expr} {k : Fl → Loc → St → Prop} {j : Nat} (hsw : swapsWith e (some (.Name y py)) pos.line f.env = pure false) (hy : getA y f.cs.names = some .cell) (hl : getA y loc = some (.ref j))
    (h : TE prog w os₀ f e loc st fun v st1 => (∃ o, getO j st1.objs = some (.cell o)) ∧ k .next loc ⟨putO j (.cell (some v)) st1.objs, st1.next⟩) : TS prog w os₀ f (.Assign [.Name y py] e pos) loc st k := by
  intro ρ s Q Ex hR q
  obtain ⟨c, hc⟩ := hf.cel _ (kindOf_of hy)
  refine wpAny_Assign_Name (h ρ s _ Ex hR fun v st₁ ρ₁ val s₁ h₁ le₁ hR₁ hv => ?_) hsw
  obtain ⟨⟨o, ho⟩, hk⟩ := h₁
  exact hR₁.storeCell (env := f.env) hv hf.kind (kindOf_of hy) hc rfl hl ho fun s' hR' => q _ _ _ _ _ _ hk le₁ hR' .next
theorem TS.expr (hf : f.Ok K mg mb) {e : Expr} {pos : Pos} {k : Fl → Loc → St → Prop} (hc : noComp e = true) (h : TE prog w os₀ f e loc st fun _ st1 => k .next loc st1) : TS prog w os₀ f (.Expr e pos) loc st k :=
  fun ρ s Q Ex hR q => wpAny_Expr_any (h ρ s _ Ex hR fun v st₁ ρ₁ val s₁ h₁ le₁ hR₁ hv => q _ _ _ _ _ _ h₁ le₁ hR₁ .next) (by show (f.cs.kind == .module && _) = false; rw [hf.kind]; rfl) (swap_plain hc)
theorem TS.ret {e : Expr} {pos : Pos} {k : Fl → Loc → St → Prop} (h : TE prog w os₀ f e loc st fun v st1 => k (.ret v) loc st1) : TS prog w os₀ f (.Return (some e) pos) loc st k :=
  fun ρ s Q Ex hR q => wpAny_Return_some (h ρ s _ Ex hR fun v st₁ ρ₁ val s₁ h₁ le₁ hR₁ hv => q _ _ _ _ _ _ h₁ le₁ hR₁ (.ret hv))
theorem plain1 {e : Expr} (h : notStar e = true) : (allPlain [e] && kwPlain []) = true := by rw [allPlain, h]; rfl
/-- o[i].append(e), an int behind an int list -/
theorem TE.appSub (hf : f.Ok K mg mb) {o i e : Expr} {sp ap pos : Pos} {k : V → St → Prop} (hl : ap.endLine = pos.line) (he : notStar e = true)
    (h : TE prog w os₀ f (.Subscript o i sp) loc st fun ov st1 => ∃ j ns, ov = .ref j ∧ getO j st1.objs = some (.nums ns) ∧ ns.length + 1 ≤ sizeLine ∧ TE prog w os₀ f e loc st1 fun v st2 => st2 = st1 ∧ ∃ n, v = .int n ∧ k .none ⟨putO j (.nums (ns ++ [n])) st1.objs, st1.next⟩) :
    TE prog w os₀ f (.Call (.Attribute (.Subscript o i sp) "append" ap) [e] [] pos) loc st k := by
  intro ρ s Q Ex hR q
  refine meth_sub (by rw [allPlain, he]; rfl) hl (by show 1 + 1 ≤ 29; decide) (h ρ s _ Ex hR fun ov st₁ ρ₁ oval s₁ h₁ le₁ hR₁ hov => ?_)
  obtain ⟨j, ns, e1, ho, hz, h₁⟩ := h₁
  subst e1
  obtain ⟨a, xs, n1, X⟩ := hR₁.shown (vs := ns.map .int) hov (by show (match getO j st₁.objs with | some o => showO o | none => none) = _; rw [ho]; rfl)
  have Z := list_methR (prog := prog) (w := w) (K := K) (j := j) X.at_ (show methL "append" j true = some (.app j) from rfl)
  rw [X.e] at hov ⊢
  refine Z.get _ _ _ _ ?_
  have T : TAK prog w os₀ f pos [e] [] loc st₁ (fun vs kvs st2 => kvs = [] ∧ st2 = st₁ ∧ ∃ n, vs = [.int n] ∧ k .none ⟨putO j (.nums (ns ++ [n])) st₁.objs, st₁.next⟩) :=
    TA.cons he (TE.mono h₁ fun v st2 ⟨e2, n, e3, hk⟩ => TA.nil (TK.nil ⟨rfl, e2, n, by rw [e3], hk⟩))
  refine T.call hf (plain1 he) (Z.keep _) hR₁ fun vs kvs st' ρ' vals kvals s' ⟨e2, e3, n, e4, hk⟩ le hR' hvs hkv => ?_
  subst e2 e3 e4
  obtain ⟨x, e5, hx⟩ := hvs.one1
  rw [show kvals = [] from hkv.inv, e5]
  refine sound_App (p := []) (k := fun _ v st => k v st) (v := .int n) hR' ho (hov.mono le) hx ⟨hz, hk⟩ fun st'' s'' g hR'' => q _ _ _ _ _ g (le₁.trans le) hR'' .none
/-- a builtin, called with one value -/
theorem TE.bi1 {X : Nat} (hf : f.Ok K mg mb) {fn e : Expr} {nm : String} {sp : List V → St → (V → St → Prop) → Prop} {pos : Pos} {k : V → St → Prop} (hn : isName fn = true) (S : BiSpec prog w K X (.builtin nm) sp) (hd : f.A.depth < X) (hu : f.A.units < 10 * X) (he : notStar e = true)
    (hfn : TE prog w os₀ f fn loc st fun v st1 => v = .bi nm ∧ TE prog w os₀ f e loc st1 fun u st2 => sp [u] st2 k) : TE prog w os₀ f (.Call fn [e] [] pos) loc st k := by
  intro ρ s Q Ex hR q
  rw [isName_call hn]
  refine wpAny_bind (hfn ρ s _ Ex hR fun fv st₁ ρ₁ fval s₁ ⟨e1, h⟩ le₁ hR₁ hfv => ?_)
  subst e1
  rw [show fval = .builtin nm from hfv.inv]
  have T : TAK prog w os₀ f pos [e] [] loc st₁ (fun vs kvs st2 => kvs = [] ∧ sp vs st2 k) := TA.cons he (TE.mono h fun v st2 h => TA.nil (TK.nil ⟨rfl, h⟩))
  refine T.call hf (plain1 he) (machine_keeps (K := K) _) hR₁ fun vs kvs st' ρ' vals kvals s' ⟨e2, hk⟩ le hR' hvs hkv => ?_
  subst e2
  rw [show kvals = [] from hkv.inv]
  exact S mg mb os₀ f hf hd hu vs st' k hk loc ρ' s' vals Q Ex hR' hvs fun v st2 ρ2 val s2 hk2 le2 => q _ _ _ _ _ hk2 (le₁.trans (le.trans le2))
end
end Mine
end
section
open PySem PySem.W PyProof.Rows PySem.Calls
set_option Elab.async false
set_option maxRecDepth 100000
set_option maxHeartbeats 4000000
namespace Mine
/-! ord, chr -/
noncomputable def ordF (vs : List V) (st : St) (k : V → St → Prop) : Prop := sf (one vs) fun v => sf (asS v) fun x => x.length = 1 ∧ k (.int (x.cps.getD 0 0 : Nat)) st
noncomputable def chrF (vs : List V) (st : St) (k : V → St → Prop) : Prop := sf (one vs) fun v => sf (asI v) fun i => (0 ≤ i ∧ i ≤ 1114111) ∧ k (.str ⟨#[i.toNat]⟩) st
section
variable {prog : Program} {w : World} {K : Frag} {X : Nat}
theorem ord_spec : BiSpec prog w K X (.builtin "ord") ordF := by
  intro mg mb os₀ f hf hd hu vs st k hk loc ρ s vals Q E hR hv q
  obtain ⟨v, e, hk⟩ := sf_ok hk
  obtain ⟨x, e2, hk⟩ := sf_ok hk
  have e := one_ok e
  have e2 := asS_ok e2
  subst e e2
  obtain ⟨x₁, e₁, a⟩ := hv.one1
  subst e₁
  obtain ⟨t₁, e₁, _⟩ := a.inv
  rw [e₁]
  exact ord_of_one hk.1 (q _ _ ρ _ _ hk.2 (.refl _) (hR.toks _ (Nat.le_succ _)) (.int _ _))
theorem chr_spec : BiSpec prog w K X (.builtin "chr") chrF := by
  intro mg mb os₀ f hf hd hu vs st k hk loc ρ s vals Q E hR hv q
  obtain ⟨v, e, hk⟩ := sf_ok hk
  obtain ⟨x, e2, hk⟩ := sf_ok hk
  have e := one_ok e
  have e2 := asI_ok e2
  subst e e2
  obtain ⟨x₁, e₁, a⟩ := hv.one1
  subst e₁
  obtain ⟨t₁, e₁⟩ := a.inv
  rw [e₁]
  exact chr_of_range hk.1.1 hk.1.2 (q _ _ ρ _ _ hk.2 (.refl _) (hR.toks _ (Nat.le_succ _)) (.str _ _ (by show 1 ≤ sizeLine; rw [sizeLine_eq]; decide)))
end
end Mine
end
section
open PySem PySem.W PyProof.Rows PySem.Calls
set_option Elab.async false
set_option maxRecDepth 100000
set_option maxHeartbeats 4000000
namespace Mine
/-! the middle of five of which three are alike -/
theorem mid_of_sorted {a b c d e v : Int} (h : [a, b, c, d, e].Pairwise (· ≤ ·)) (hc : 3 ≤ [a, b, c, d, e].count v) : c = v := by
  have h1 := List.pairwise_cons.mp h
  have h2 := List.pairwise_cons.mp h1.2
  have h3 := List.pairwise_cons.mp h2.2
  have h4 := List.pairwise_cons.mp h3.2
  have ab := h1.1 b (by simp)
  have bc := h2.1 c (by simp)
  have cd := h3.1 d (by simp)
  have de := h4.1 e (by simp)
  simp only [List.count_cons, List.count_nil, beq_iff_eq] at hc
  split at hc <;> split at hc <;> split at hc <;> split at hc <;> split at hc <;> omega
/-- the middles of a frozen list -/
noncomputable def triOf1 : List V → Option (List Int)
  | [.tri ns] => some ns
  | _ => none
theorem triOf1_ok {vs : List V} {ns : List Int} (h : triOf1 vs = some ns) : vs = [.tri ns] := by
  cases vs with
  | nil => exact no' h
  | cons v r =>
    cases r with
    | nil => cases v with
      | tri ns => exact congrArg (fun n => [V.tri n]) (Option.some.inj h)
      | _ => exact no' h
    | cons _ _ => cases v <;> exact no' h
noncomputable def medT (pre : List Int → Prop) (g : List Int → V) (vs : List V) (st : St) (k : V → St → Prop) : Prop := sf (triOf1 vs) fun ns => ((ns.length < 64 ∧ ns ≠ []) ∧ pre ns) ∧ k (g ns) st
section
variable {prog : Program} {w : World} {X : Nat}
theorem medT_of {a : Nat} (hX : X ≤ 800) (I : FnOk (KK w.params) (mdI w.params a)) (hcell : (mdI w.params a).cell = []) {pre : List Int → Prop} {g : List Int → V} (hg : ∀ ns, closedV (g ns) = true)
    (h : ∀ (mg mb : Str → Option Value) (os₀ : Glo) (f : FD), f.Ok (KK w.params) mg mb → f.cs = (mdI w.params a).sc → f.A.depth < 850 → f.A.units < 8600 → ∀ ns, ns.length < 64 → ns ≠ [] → pre ns →
      TB prog w os₀ f (mdI w.params a).body [("data", .tri ns)] ⟨[], 0⟩ (fun fl _ _ => fl = .ret (g ns))) : SpecOk prog w (KK w.params) X a (medT pre g) := by
  refine spec_isoF (i := mdI w.params a) (out := fun vs v => ∃ ns, vs = [.tri ns] ∧ (ns.length < 64 ∧ ns ≠ []) ∧ pre ns ∧ v = g ns) (Nat.le_trans hX (by decide)) I rfl hcell (fun vs st k hk => ?_) rfl (fun mg mb os₀ f hf hcs hd hu vs v ho => ?_)
  · obtain ⟨ns, e, hk⟩ := sf_ok hk
    have e := triOf1_ok e
    subst e
    exact ⟨rfl, rfl, g ns, hg ns, ⟨ns, rfl, hk.1.1, hk.1.2, rfl⟩, hk.2⟩
  · obtain ⟨ns, e, h1, h2, e2⟩ := ho
    subst e e2
    exact (h mg mb os₀ f hf hcs (by omega) (by omega) ns h1.1 h1.2 h2).mono fun fl _ _ x => .inl x
end
end Mine
end
section
open PySem PySem.W PyProof.Rows PySem.Calls
set_option Elab.async false
set_option maxRecDepth 100000
namespace Mine
/-! _law_sent, plainly -/
structure SentInv (cs : List Int) (copies spoilt : List (List Int)) : Prop where
  l1 : copies.length = 5
  l2 : ∀ (k : Nat) (r : List Int), copies[k]? = some r → r.length = cs.length
  l3 : spoilt.length = cs.length
  two : ∀ (p : Nat) (s : List Int), spoilt[p]? = some s → ∃ a b, ∀ c ∈ s, c = a ∨ c = b
  same : ∀ (k : Nat) (r : List Int) (p : Nat) (v : Int) (s : List Int), copies[k]? = some r → r[p]? = some v → spoilt[p]? = some s → ((k : Nat) : Int) ∉ s → cs[p]? = some v
theorem sent_start (cs : List Int) : SentInv cs [cs, cs, cs, cs, cs] (cs.map fun _ => []) := by
  have h5 : ∀ (k : Nat) (r : List Int), [cs, cs, cs, cs, cs][k]? = some r → r = cs := fun k r h => by
    have := List.mem_of_getElem? h
    simp only [List.mem_cons, List.not_mem_nil, or_false, or_self] at this
    exact this
  refine ⟨rfl, fun k r h => by rw [h5 k r h], List.length_map _, fun p s h => ?_, fun k r p v s h1 h2 _ _ => by rw [h5 k r h1] at h2; exact h2⟩
  rw [List.getElem?_map] at h
  obtain ⟨_, _, e⟩ := Option.map_eq_some_iff.mp h
  subst e
  exact ⟨0, 0, fun c hc => absurd hc List.not_mem_nil⟩
theorem sent_put {cs : List Int} {copies spoilt : List (List Int)} (I : SentInv cs copies spoilt) {c p : Nat} {r s : List Int} {v : Int} (hr : copies[c]? = some r) (hs : spoilt[p]? = some s) (h : ((c : Nat) : Int) ∈ s ∨ s.length < 2) :
    SentInv cs (copies.set c (r.set p v)) (spoilt.set p (s ++ [(c : Int)])) := by
  refine ⟨by rw [List.length_set]; exact I.l1, fun k r' hk => ?_, by rw [List.length_set]; exact I.l3, fun q s' hq => ?_, fun k r' q u s' h1 h2 h3 h4 => ?_⟩
  · rw [List.getElem?_set] at hk
    by_cases e : c = k
    · rw [if_pos e] at hk
      split at hk
      · have hk := Option.some.inj hk
        rw [← hk, List.length_set]; exact I.l2 _ _ hr
      · exact nomatch hk
    · rw [if_neg e] at hk; exact I.l2 _ _ hk
  · rw [List.getElem?_set] at hq
    by_cases e : p = q
    · rw [if_pos e] at hq
      split at hq
      · have hq := Option.some.inj hq
        subst hq
        obtain ⟨a, b, hab⟩ := I.two _ _ hs
        rcases h with h | h
        · exact ⟨a, b, fun x hx => (List.mem_append.mp hx).elim (hab x) fun hx => List.mem_singleton.mp hx ▸ hab _ h⟩
        · match s, h with
          | [], _ => exact ⟨c, c, fun x hx => .inl (List.mem_singleton.mp hx)⟩
          | [y], _ => exact ⟨y, c, fun x hx => by
              rcases List.mem_append.mp hx with hx | hx
              · exact .inl (List.mem_singleton.mp hx)
              · exact .inr (List.mem_singleton.mp hx)⟩
      · exact nomatch hq
    · rw [if_neg e] at hq; exact I.two _ _ hq
  · rw [List.getElem?_set] at h1 h3
    by_cases e : p = q
    · subst e
      rw [if_pos rfl] at h3
      split at h3
      · have h3 := Option.some.inj h3
        subst h3
        have hkc : c ≠ k := fun e => h4 (List.mem_append_right _ (e ▸ List.mem_singleton.mpr rfl))
        rw [if_neg hkc] at h1
        exact I.same _ _ _ _ _ h1 h2 hs fun hm => h4 (List.mem_append_left _ hm)
      · exact nomatch h3
    · rw [if_neg e] at h3
      by_cases ek : c = k
      · rw [if_pos ek] at h1
        split at h1
        · have h1 := Option.some.inj h1
          subst h1
          rw [List.getElem?_set, if_neg e] at h2
          exact I.same _ _ _ _ _ (ek ▸ hr) h2 h3 h4
        · exact nomatch h1
      · rw [if_neg ek] at h1
        exact I.same _ _ _ _ _ h1 h2 h3 h4
theorem few_bad {v a b : Int} {l : List Int} : ∀ (k : Int), (∀ (i : Nat) (x : Int), l[i]? = some x → x ≠ v → k + i = a ∨ k + i = b) → l.length ≤ l.count v + (if k ≤ a then 1 else 0) + (if k ≤ b then 1 else 0) := by
  induction l with
  | nil => exact fun _ _ => Nat.zero_le _
  | cons x r ih =>
    intro k h
    have ih := ih (k + 1) fun i y hy hn => by
      have := h (i + 1) y hy hn
      rw [Int.natCast_add, Int.natCast_one, Int.add_comm (i : Int) 1, ← Int.add_assoc] at this
      exact this
    rw [List.length_cons, List.count_cons]
    by_cases e : x = v
    · rw [if_pos (beq_iff_eq.mpr e)]
      split at ih <;> split at ih <;> split <;> split <;> omega
    · have h0 := h 0 x rfl e
      rw [if_neg fun q => e (beq_iff_eq.mp q)]
      have h0 : k = a ∨ k = b := by simpa using h0
      split at ih <;> split at ih <;> split <;> split <;> omega
theorem sent_count {cs : List Int} {copies spoilt : List (List Int)} (I : SentInv cs copies spoilt) {p : Nat} {v : Int} (hp : cs[p]? = some v) : 3 ≤ (copies.map fun r => getN 0 p r).count v := by
  have hlt : p < spoilt.length := I.l3 ▸ (List.getElem?_eq_some_iff.mp hp).1
  have hs := List.getElem?_eq_getElem hlt
  obtain ⟨a, b, hab⟩ := I.two _ _ hs
  have h := few_bad (l := copies.map fun r => getN 0 p r) (v := v) (a := a) (b := b) 0 fun i x hx hn => by
    rw [List.getElem?_map] at hx
    obtain ⟨r, hr, e⟩ := Option.map_eq_some_iff.mp hx
    rw [Int.zero_add]
    by_cases hm : ((i : Nat) : Int) ∈ spoilt[p]
    · exact hab _ hm
    · refine absurd ?_ hn
      have hpl : p < r.length := (I.l2 _ _ hr) ▸ (List.getElem?_eq_some_iff.mp hp).1
      have h2 := I.same _ _ _ _ _ hr (List.getElem?_eq_getElem hpl) hs hm
      have e2 : ∀ {q : Nat} {t : List Int} (h : q < t.length), getN 0 q t = t[q] := by
        intro q t
        induction t generalizing q with
        | nil => exact fun h => absurd h (Nat.not_lt_zero _)
        | cons y t ih => intro h; cases q with
          | zero => rfl
          | succ q => exact ih (Nat.lt_of_succ_lt_succ h)
      rw [← e, e2 hpl]
      exact (Option.some.inj (hp.symm.trans h2)).symm
  rw [List.length_map, I.l1] at h
  split at h <;> split at h <;> omega
end Mine
end
section
open PySem PySem.W PyProof.Rows PySem.Calls
set_option Elab.async false
set_option maxRecDepth 100000
namespace Mine
/-- the three middles of five of which three are alike -/
structure Mids (ns : List Int) (v : Int) : Prop where
  len : (sortI ns).length = 5
  lo : loI (sortI ns) = v
  hi : hiI (sortI ns) = v
  mid : midV (sortI ns) = .int v
theorem mids_out {out : List Int} {v : Int} (hl : out.length = 5) (hs : out.Pairwise (· ≤ ·)) (hc : 3 ≤ out.count v) : loI out = v ∧ hiI out = v ∧ midV out = .int v := by
  match out, hl with
  | [a, b, c, d, e], _ =>
    have h := mid_of_sorted hs hc
    subst h
    have e5 : [a, b, c, d, e].length = 5 := rfl
    exact ⟨by unfold loI; rw [e5]; rfl, by unfold hiI; rw [e5]; rfl, by unfold midV; rw [e5]; rfl⟩
theorem mids_of {ns : List Int} {v : Int} (h5 : ns.length = 5) (hc : 3 ≤ ns.count v) : Mids ns v := by
  have hl : (sortI ns).length = 5 := (sortI_len ns).trans h5
  have h := mids_out hl (sortI_rises ns) (((sortI_perm ns).count_eq v).symm ▸ hc)
  exact ⟨hl, h.1, h.2.1, h.2.2⟩
end Mine
end
section
open PySem PySem.W PyProof.Rows PySem.Calls
set_option Elab.async false
set_option maxRecDepth 100000
namespace Mine
/-! one fault -/
noncomputable def fC (x : Int) : Nat := (x.fmod 5).toNat
noncomputable def fP (n : Nat) (x : Int) : Nat := ((x.fdiv 5).fmod n).toNat
noncomputable def fV (x : Int) : Int := (x.fdiv 7).fmod 300
theorem fmod_cast {x : Int} {n : Nat} (h : 0 < n) : x.fmod n = ((x.fmod n).toNat : Int) ∧ (x.fmod n).toNat < n := by
  have h0 : 0 ≤ x.fmod n := Int.fmod_nonneg_of_pos x (Int.natCast_pos.mpr h)
  have h1 : x.fmod n < n := Int.fmod_lt_of_pos x (Int.natCast_pos.mpr h)
  exact ⟨(Int.toNat_of_nonneg h0).symm, (Int.toNat_lt h0).mpr h1⟩
theorem fC_ok (x : Int) : x.fmod 5 = (fC x : Int) ∧ fC x < 5 := fmod_cast (n := 5) (by decide)
theorem fP_ok {n : Nat} (h : 0 < n) (x : Int) : (x.fdiv 5).fmod n = (fP n x : Int) ∧ fP n x < n := fmod_cast h
/-- the state behind one fault -/
structure Sent where
  copies : List (List Int)
  spoilt : List (List Int)
noncomputable def sentGo (S : Sent) (n : Nat) (x : Int) : Bool := decide ((fC x : Int) ∈ getN [] (fP n x) S.spoilt) || decide ((getN [] (fP n x) S.spoilt).length < 2)
noncomputable def sentStep (n : Nat) (S : Sent) (x : Int) : Sent := match sentGo S n x with
  | true => ⟨S.copies.set (fC x) ((getN [] (fC x) S.copies).set (fP n x) (fV x)), S.spoilt.set (fP n x) (getN [] (fP n x) S.spoilt ++ [(fC x : Int)])⟩
  | false => S
theorem getN_at {α : Type} {d : α} {l : List α} : ∀ {i : Nat}, i < l.length → l[i]? = some (getN d i l) := by
  induction l with
  | nil => exact fun h => absurd h (Nat.not_lt_zero _)
  | cons x r ih =>
    intro i h
    cases i with
    | zero => rfl
    | succ i => exact ih (Nat.lt_of_succ_lt_succ h)
theorem sent_step {cs : List Int} {S : Sent} (hn : 0 < cs.length) (I : SentInv cs S.copies S.spoilt) (x : Int) : SentInv cs (sentStep cs.length S x).copies (sentStep cs.length S x).spoilt := by
  unfold sentStep
  cases e : sentGo S cs.length x with
  | false => exact I
  | true =>
    have hc := getN_at (d := []) (l := S.copies) (i := fC x) (I.l1 ▸ (fC_ok x).2)
    have hp := getN_at (d := []) (l := S.spoilt) (i := fP cs.length x) (I.l3 ▸ (fP_ok hn x).2)
    exact sent_put I hc hp ((Bool.or_eq_true_iff.mp e).imp of_decide_eq_true of_decide_eq_true)
theorem sent_all {cs : List Int} (hn : 0 < cs.length) {xs : List Int} : ∀ {S : Sent}, SentInv cs S.copies S.spoilt → SentInv cs (xs.foldl (sentStep cs.length) S).copies (xs.foldl (sentStep cs.length) S).spoilt := by
  induction xs with
  | nil => exact fun I => I
  | cons x r ih => exact fun I => ih (sent_step hn I x)
end Mine
end
section
open PySem PySem.W PyProof.Rows PySem.Calls
set_option Elab.async false
set_option maxRecDepth 100000
set_option maxHeartbeats 4000000
namespace Mine
/-! parts of a comprehension -/
noncomputable def cElt (e : Expr) : Expr := atE [0] e
noncomputable def cIter (e : Expr) : Expr := atE [2] e
noncomputable def cSc (e : Expr) : Scope := scE e
/-- a comprehension of one generator and no test -/
structure C0 (x : Str) (ks : List (Str × NameKind)) (e : Expr) : Prop where
  he : e = .ListComp (cElt e) [⟨.Name x (atE [1] e).pos, cIter e, [], 0⟩] (cSc e) e.pos
  hs : noSet (cIter e) = true
  hk : (cSc e).kind = .function
  hg : compGoodC ks (cSc e).names = true
/-- .. its target a plain name -/
structure CL (x : Str) (ks : List (Str × NameKind)) (e : Expr) : Prop extends C0 x ks e where
  hc : cellNames (cSc e).names = []
  hx : getA x (cSc e).names = some .local
/-- name = [..] -/
structure AL (y : Str) (ks : List (Str × NameKind)) (s : Stmt) : Prop where
  he : s = .Assign [.Name y (sE 1 [] s).pos] (sE 0 [] s) s.pos
  hp : ((sE 1 [] s).pos.line == (sE 0 [] s).pos.line) = true
  hn : ((cSc (sE 0 [] s)).names.any fun (n, k) => n == y && (k == .local || k == .cell)) = false
  hy : getA y ks = some .local
section
variable {prog : Program} {w : World} {K : Frag} {mg mb : Str → Option Value} {os₀ : Glo} {f : FD} {loc : Loc} {st : St}
theorem asg_of (hf : f.Ok K mg mb) {s : Stmt} {x y : Str} {k : Fl → Loc → St → Prop} (a : AL y f.cs.names s) (c : C0 x f.cs.names (sE 0 [] s))
    (h : CT prog w os₀ f (sE 0 [] s) loc st (fun v st' => k .next (putA y v loc) st')) : TS prog w os₀ f s loc st k := by
  have he := c.he
  have hp := a.hp
  have hn := a.hn
  rw [a.he]
  generalize sE 0 [] s = e at h he hp hn
  rw [he] at h hp ⊢
  exact CT.asg hf a.hy hp hn h
theorem TE.nilN {p : Pos} {k : V → St → Prop} (h : k (.ref st.next) ⟨(st.next, .nums []) :: st.objs, st.next + 1⟩) : TE prog w os₀ f (.List [] p) loc st k := by
  intro ρ s Q Ex hR q
  refine List_ (spliced_nil (wpAny_newObj_type ?_))
  obtain ⟨ρ', le, hof, hR'⟩ := hR.new1 (tk := s.toks) (x := .nums []) push_keeps (Heap.get?_push_size _ rfl) (fun ρ' _ => .nums (n := 0) (xs := []) .nil (Nat.zero_le _)) (Nat.le_refl _)
  exact q _ _ ρ' _ _ h le hR' (.ref hof)
theorem TE.int {i : Int} {kk : Nat} {p : Pos} {k : V → St → Prop} (h : k (.int i) st) : TE prog w os₀ f (.Constant (.int i) kk p) loc st k := sound_Const (p := []) (k := fun _ => k) (show stConst [] st (fun _ => k) (.int i) from h) fun _ _ _ h => h
end
/-! _law_sent -/
noncomputable abbrev seI (P : Params) : FnI := mkFn (KK P) 805 2 [] [("line", .arg 0), ("faults", .arg 1)]
theorem ok_805 (P : Params) : FnOk (KK P) (seI P) := fn_2 (by kernel_rfl!) (by intro S a b; kernel_rfl!) (noconst1 rfl)
noncomputable abbrev seB (P : Params) : List Stmt := (seI P).body
noncomputable abbrev seN (P : Params) := (fdAt (KK P) 805).scope.names
noncomputable abbrev coE (P : Params) : Expr := sE 0 [] (sI 0 (seB P))
noncomputable abbrev ciE (P : Params) : Expr := cElt (coE P)
noncomputable abbrev spE (P : Params) : Expr := sE 0 [] (sI 1 (seB P))
noncomputable abbrev coN (P : Params) := relNames (seN P) (cSc (coE P)).names
noncomputable abbrev ciN (P : Params) := relNames (coN P) (cSc (ciE P)).names
theorem co_c (P : Params) : CL "k" (seN P) (coE P) := ⟨⟨by kernel_rfl!, by kernel_rfl!, by kernel_rfl!, by kernel_rfl!⟩, by kernel_rfl!, by kernel_rfl!⟩
theorem ci_c (P : Params) : CL "sign" (coN P) (ciE P) := ⟨⟨by kernel_rfl!, by kernel_rfl!, by kernel_rfl!, by kernel_rfl!⟩, by kernel_rfl!, by kernel_rfl!⟩
theorem sp_c (P : Params) : CL "sign" (seN P) (spE P) := ⟨⟨by kernel_rfl!, by kernel_rfl!, by kernel_rfl!, by kernel_rfl!⟩, by kernel_rfl!, by kernel_rfl!⟩
theorem co_a (P : Params) : AL "copies" (seN P) (sI 0 (seB P)) := ⟨by kernel_rfl!, by kernel_rfl!, by kernel_rfl!, by kernel_rfl!⟩
theorem sp_a (P : Params) : AL "spoilt" (seN P) (sI 1 (seB P)) := ⟨by kernel_rfl!, by kernel_rfl!, by kernel_rfl!, by kernel_rfl!⟩
theorem sp_nil (P : Params) : cElt (spE P) = .List [] (cElt (spE P)).pos := by kernel_rfl!
theorem ci_it (P : Params) : cIter (ciE P) = .Name "line" (cIter (ciE P)).pos := by kernel_rfl!
theorem sp_it (P : Params) : cIter (spE P) = .Name "line" (cIter (spE P)).pos := by kernel_rfl!
theorem se_line (P : Params) : getA "line" (seN P) = some .cell := by kernel_rfl!
theorem co_line (P : Params) : getA "line" (coN P) = some .cell := by kernel_rfl!
noncomputable def ΓQ (P : Params) : Gam where
  glob := [("range", .ty "range"), ("ord", .bi "ord"), ("len", .bi "len")]
  fns := []
  plain := []
  meth := []
  prop := []
  bi := []
  ty := []
  sm := []
  cls := []
  biS := [("ord", ordF)]
  tyS := [("range", rngF)]
theorem ok_globQ (P : Params) : globTab (KK P) (ΓQ P).glob = true := by kernel_rfl!
theorem okQ (prog : Program) (w : World) {X : Nat} : (ΓQ w.params).Ok prog w (KK w.params) X where
  spec := fun _ _ h => by cases h
  glob := globTab_ok (ok_globQ _)
  fns := fun _ h => by cases h
  plain := fun _ _ h => by cases h
  meth := fun _ _ h => by cases h
  prop := fun _ _ h => by cases h
  bi := fun _ _ h => by cases h
  ty := fun _ _ h => by cases h
  cls := fun _ _ _ h => by cases h
  sm := fun _ _ h => by cases h
  biS := fun n sp h => by
    cases List.mem_singleton.mp h
    exact ord_spec
  tyS := fun n sp h => by
    cases List.mem_singleton.mp h
    exact rngF_ok
noncomputable abbrev seT0 (line : Str) : List (Nat × O) := [(0, .cell (some (.str line)))]
section
variable {P : Params} {line : Str} {fs : List Int} {st : St} {v : V} {x : Str} {ke : Path → V → St → Prop}
theorem se_loc : fnLoc (seI P) 0 [.str line, .tri fs] [] = ([("line", .ref 0), ("faults", .tri fs)] : Loc) := by kernel_rfl!
theorem se_st : fnSt (seI P) ⟨[], 0⟩ [.str line, .tri fs] [] = ⟨seT0 line, 1⟩ := by kernel_rfl!
theorem co_it : (run (ΓQ P) 20).E (seN P) [] [("line", .ref 0), ("faults", .tri fs)] st (cIter (coE P)) ke = ke [] (.rng 5) st := by kernel_rfl!
theorem co_fl : putA "k" v (freeLoc [("line", .ref 0), ("faults", .tri fs)] (freeNames (cSc (coE P)).names)) = ([("line", .ref 0), ("k", v)] : Loc) := by kernel_rfl!
theorem ci_fl {u : V} : putA "sign" u (freeLoc [("line", .ref 0), ("k", v)] (freeNames (cSc (ciE P)).names)) = ([("sign", u)] : Loc) := by kernel_rfl!
theorem ci_el : (run (ΓQ P) 20).E (ciN P) [] [("sign", .str x)] st (cElt (ciE P)) ke = (x.length = 1 ∧ ke [] (.int (x.cps.getD 0 0 : Nat)) st) := by kernel_rfl!
end
end Mine
end
section
open PySem PySem.W PyProof.Rows PySem.Calls
set_option Elab.async false
set_option maxRecDepth 100000
set_option maxHeartbeats 4000000
namespace Mine
/-! a def run in a table of its own, cells and all -/
noncomputable abbrev labN (ρ : Lab) : Lab := ⟨fun _ => none, ρ.im⟩
section
variable {w : World} {os₀ : Glo} {h₀ : Heap} {L : Addr} {outs : Fx} {loc : Loc} {st : St} {ρ : Lab} {s : Shared}
theorem R.hideAll (r : R w os₀ h₀ L outs loc st ρ s) : ∃ pre, R w os₀ h₀ L { outs with raw := pre ++ outs.raw } (hideLoc ρ loc) ⟨[], 0⟩ (labN ρ) s ∧
    ∀ (st' : St) (ρ' : Lab) (s' : Shared), LabLe (labN ρ) ρ' → R w os₀ h₀ L { outs with raw := pre ++ outs.raw } (hideLoc ρ loc) st' ρ' s' → LabLe ρ ⟨ρ.of, ρ'.im⟩ ∧ R w os₀ h₀ L outs loc st ⟨ρ.of, ρ'.im⟩ s' := by
  obtain ⟨m, M⟩ := r.fr
  obtain ⟨ns, D⟩ := r.led
  obtain ⟨pre, l, X⟩ := D.T.parts
  obtain ⟨c, fs, Y⟩ := X.r
  have e := X.e
  rw [Y.e, ← List.append_assoc] at e
  refine ⟨pre, ⟨⟨m, M.F, fun x v hx => ?_⟩, ⟨ns, D.N, .nil ⟨c, fs, e, Y.ct, Y.fr⟩, D.nd⟩, fun _ _ => rfl, r.os, r.gens, r.tok⟩, fun st' ρ' s' le hR => ?_⟩
  · unfold hideLoc at hx
    rw [getA_map] at hx
    obtain ⟨u, hu, e⟩ := Option.map_eq_some_iff.mp hx
    exact e ▸ hide_loc (fun _ h => h) (M.hm x u hu)
  · obtain ⟨m', M'⟩ := hR.fr
    obtain ⟨ns', D'⟩ := hR.led
    obtain ⟨pre', l', X'⟩ := D'.T.parts
    obtain ⟨c', fs', Y'⟩ := X'.r
    have e' := X'.e
    rw [Y'.e, List.append_assoc] at e'
    have le' : LabLe ρ ⟨ρ.of, ρ'.im⟩ := ⟨fun _ _ h => h, le.im⟩
    have nd := D'.nd
    rw [e', List.map_append, List.nodup_append] at nd
    exact ⟨le', ⟨m', M'.F, fun x v hx => unhide_loc (M.hm x v hx) (M'.hm x (hideV ρ v) (by unfold hideLoc; rw [getA_map, hx]; rfl))⟩,
      ⟨_, fun p hp => D'.N p (e' ▸ List.mem_append_right _ hp), (X.put (RestIs os₀ outs ρ'.im) _ ⟨c', fs', rfl, Y'.ct, Y'.fr⟩).mono le', nd.2.1⟩, fun k hk => r.free k hk, hR.os, hR.gens, hR.tok⟩
end
section
variable {prog : Program} {w : World} {K : Frag} {X : Nat}
theorem VRs.toN {ρ : Lab} {vs : List V} {xs : List Value} (h : VRs ρ vs xs) (hc : vs.all closedV = true) : VRs (labN ρ) vs xs := by
  induction h with
  | nil => exact .nil
  | cons a _ ih =>
    have hc := Bool.and_eq_true_iff.mp hc
    exact .cons (VR.closed (ρ := ρ) (ρ' := labN ρ) (fun _ h => h) a hc.1) (ih hc.2)
/-- the contract of a def that makes a closed value (or a list of such) out of closed arguments -/
theorem spec_isoC (hX : X ≤ 900) {i : FnI} (I : FnOk K i) (hkw : i.kws = []) {sp : List V → St → (V → St → Prop) → Prop} {out : List V → V → Prop}
    (hsp : ∀ vs st k, sp vs st k → vs.length = i.n ∧ vs.all closedV = true ∧ ∃ v, closedV v = true ∧ out vs v ∧ k v st)
    (h : ∀ (mg mb : Str → Option Value) (os₀ : Glo) (f : FD), f.Ok K mg mb → f.cs = i.sc → f.A.depth < X + 1 → f.A.units < 10 * X + 3 → ∀ vs v, out vs v →
      TB prog w os₀ f i.body (fnLoc i 0 vs []) (fnSt i ⟨[], 0⟩ vs []) (fun fl _ st' => fl = .ret v ∨ ∃ j us, fl = .ret (.ref j) ∧ getO j st'.objs = some (.list us) ∧ itemsV v = some us ∧ us.all closedV = true)) :
    SpecOk prog w K X i.f sp := by
  refine ⟨.of I.keep, ?_⟩
  intro mg mb os₀ f hf A' hfr hh hd hu vs st k hk loc ρ s vals Rr hR hv q
  obtain ⟨h1, h2, v, h4, h5, h6⟩ := hsp _ _ _ hk
  obtain ⟨pre, hRf, hback⟩ := hR.hideAll
  rw [← zip_nil_r i.kws]
  refine callR I (f.withRaw (pre ++ f.outs.raw)) (hf.withRaw _) hfr hh (by unfold recursionLimit; omega) (st := ⟨[], 0⟩) hRf (hv.toN h2) .nil h1 (by rw [hkw]; rfl) ?_
  intro f' f'ok hcs hdep hun hfr' ρ₁ s₁ le₁ hR₁ back
  refine h mg mb os₀ f' f'ok hcs (hdep ▸ Nat.succ_lt_succ hd) (hun ▸ Nat.add_lt_add_right hu 3) vs v h5 ρ₁ _ _ _ hR₁ ?_
  intro fl loc' st₂ ρ' fv s' hk' le hR' hfl
  have fin : ∀ (ρ'' : Lab) (val : Value) (l₂ : Loc) (st₃ : St), LabLe ρ₁ ρ'' → R w os₀ f'.h₀ f'.L f'.outs l₂ st₃ ρ'' s' → VR ρ'' v val → Rr (.ok (.ret val)) s' := fun ρ'' val l₂ st₃ le hR' hval => by
    obtain ⟨le₂, hR₂⟩ := hback _ ρ'' s' (le₁.trans le) (back _ _ _ _ (le₁.trans le) hR')
    exact q _ _ _ _ _ h6 le₂ hR₂ (VR.closed (ρ := ρ'') (ρ' := ⟨ρ.of, ρ''.im⟩) (fun _ h => h) hval h4)
  rcases hk' with e | ⟨j, us, e, ho, hi, hus⟩
  · subst e
    obtain ⟨val, e, hval⟩ := hfl.inv
    subst e
    exact fin ρ' val _ _ le hR' hval
  · subst e
    obtain ⟨val, e, hval⟩ := hfl.inv
    subst e
    obtain ⟨ρ₂, le₂, hv₂, hR₂⟩ := hR'.freeze ho hi hus hval
    exact fin ρ₂ val _ _ (le.trans le₂) hR₂ hv₂
end
end Mine
end
section
open PySem PySem.W PyProof.Rows PySem.Calls
set_option Elab.async false
set_option maxRecDepth 100000
set_option maxHeartbeats 4000000
namespace Mine
/-! _law_voted -/
noncomputable def loG (ns : List Int) : V := .int (loI (sortI ns))
noncomputable def hiG (ns : List Int) : V := .int (hiI (sortI ns))
noncomputable def oddP (ns : List Int) : Prop := (sortI ns).length % 2 = 1
noncomputable def anyP (_ : List Int) : Prop := True
noncomputable def ΓV (P : Params) : Gam where
  glob := [("median_low", .raw 71), ("median_high", .raw 78), ("median", .raw 64)]
  fns := []
  plain := []
  meth := []
  prop := []
  bi := []
  ty := []
  sm := []
  cls := []
  spec := [(71, medT anyP loG), (78, medT anyP hiG), (64, medT oddP hiG)]
theorem ok_globV (P : Params) : globTab (KK P) (ΓV P).glob = true := by kernel_rfl!
theorem okV (prog : Program) (w : World) {X : Nat} (hX : X ≤ 800) : (ΓV w.params).Ok prog w (KK w.params) X where
  spec := fun a sp h => by
    rcases List.mem_cons.mp h with h | h
    · cases h
      exact medT_of hX (ok_71 _) (cell71 _) (fun _ => rfl) fun mg mb os₀ f hf hcs hd hu ns h1 h2 _ => (md71 hf hcs hd hu rfl h1 h2).mono fun _ _ _ x => x.1
    · rcases List.mem_cons.mp h with h | h
      · cases h
        exact medT_of hX (ok_78 _) (cell78 _) (fun _ => rfl) fun mg mb os₀ f hf hcs hd hu ns h1 h2 _ => (md78 hf hcs hd hu rfl h1 h2).mono fun _ _ _ x => x.1
      · cases List.mem_singleton.mp h
        refine medT_of hX (ok_64 _) (cell64 _) (fun _ => rfl) fun mg mb os₀ f hf hcs hd hu ns h1 h2 h3 => (md64 hf hcs hd hu rfl h1 h2 (.inl h3)).mono fun _ _ _ x => x.1.trans ?_
        unfold midV
        rw [if_pos (show (sortI ns).length % 2 = 1 from h3)]
        rfl
  glob := globTab_ok (ok_globV _)
  fns := fun _ h => by cases h
  plain := fun _ _ h => by cases h
  meth := fun _ _ h => by cases h
  prop := fun _ _ h => by cases h
  bi := fun _ _ h => by cases h
  ty := fun _ _ h => by cases h
  cls := fun _ _ _ h => by cases h
  sm := fun _ _ h => by cases h
noncomputable abbrev voI (P : Params) : FnI := mkFn (KK P) 810 2 [] [("copies", .arg 0), ("place", .arg 1)]
theorem ok_810 (P : Params) : FnOk (KK P) (voI P) := fn_2 (by kernel_rfl!) (by intro S a b; kernel_rfl!) (noconst1 rfl)
noncomputable abbrev voB (P : Params) : List Stmt := (voI P).body
noncomputable abbrev voN (P : Params) := (fdAt (KK P) 810).scope.names
noncomputable abbrev voE (P : Params) : Expr := sE 0 [] (sI 0 (voB P))
theorem vo_c (P : Params) : CL "copy" (voN P) (voE P) := ⟨⟨by kernel_rfl!, by kernel_rfl!, by kernel_rfl!, by kernel_rfl!⟩, by kernel_rfl!, by kernel_rfl!⟩
theorem vo_a (P : Params) : AL "codes" (voN P) (sI 0 (voB P)) := ⟨by kernel_rfl!, by kernel_rfl!, by kernel_rfl!, by kernel_rfl!⟩
theorem vo_shape (P : Params) : voB P = [sI 0 (voB P), sI 1 (voB P)] := by kernel_rfl!
noncomputable abbrev voT (p : Int) : List (Nat × O) := [(0, .cell (some (.int p)))]
section
variable {P : Params} {p : Int} {cv : V} {r ns : List Int} {v : V} {st : St} {ke : Path → V → St → Prop} {k : Path → Fl → Loc → St → Prop}
theorem vo_loc : fnLoc (voI P) 0 [cv, .int p] [] = ([("place", .ref 0), ("copies", cv)] : Loc) := by kernel_rfl!
theorem vo_st : fnSt (voI P) ⟨[], 0⟩ [cv, .int p] [] = ⟨voT p, 1⟩ := by kernel_rfl!
theorem vo_it : (run (ΓV P) 20).E (voN P) [] [("place", .ref 0), ("copies", cv)] st (cIter (voE P)) ke = ke [] cv st := by kernel_rfl!
theorem vo_fl : putA "copy" v (freeLoc [("place", .ref 0), ("copies", cv)] (freeNames (cSc (voE P)).names)) = ([("place", .ref 0), ("copy", v)] : Loc) := by kernel_rfl!
theorem vo_el : (run (ΓV P) 20).E (relNames (voN P) (cSc (voE P)).names) [] [("place", .ref 0), ("copy", .tri r)] ⟨voT p, 1⟩ (cElt (voE P)) ke = ((0 ≤ p ∧ p < (r.length : Int)) ∧ ke [] (.int (getN 0 p.toNat r)) ⟨voT p, 1⟩) := by kernel_rfl!
theorem vo_1 : (run (ΓV P) 20).S (voN P) [] [("place", .ref 0), ("copies", cv), ("codes", .tri ns)] st (sI 1 (voB P)) k =
    (((ns.length < 64 ∧ ns ≠ []) ∧ anyP ns) ∧ (((ns.length < 64 ∧ ns ≠ []) ∧ anyP ns) ∧ (((ns.length < 64 ∧ ns ≠ []) ∧ oddP ns) ∧ k [] (.ret (.tri [loI (sortI ns), hiI (sortI ns), hiI (sortI ns)])) [("place", .ref 0), ("copies", cv), ("codes", .tri ns)] st))) := by kernel_rfl!
end
noncomputable def atV (p : Int) : V → V
  | .tri r => .int (getN 0 p.toNat r)
  | _ => .none
/-- the votes at a place where three codes are alike -/
structure Vote (rows : List (List Int)) (p v : Int) : Prop where
  lo : 0 ≤ p
  hi : ∀ r ∈ rows, p < (r.length : Int)
  five : rows.length = 5
  three : 3 ≤ (rows.map fun r => getN 0 p.toNat r).count v
section
variable {prog : Program} {w : World} {mg mb : Str → Option Value} {os₀ : Glo} {f : FD}
theorem vo_body (hf : f.Ok (KK w.params) mg mb) (hcs : f.cs = (voI w.params).sc) (hd : f.A.depth < 700) (hu : f.A.units < 7000) {rows : List (List Int)} {p v : Int} (H : Vote rows p v) :
    TB prog w os₀ f (voB w.params) [("place", .ref 0), ("copies", .tr (rows.map .tri))] ⟨voT p, 1⟩ (fun fl _ _ => fl = .ret (.tri [v, v, v])) := by
  have hn : f.cs.names = voN w.params := by rw [hcs]; rfl
  have C := vo_c w.params
  have eC := C.he
  have M := mids_of (ns := rows.map fun r => getN 0 p.toNat r) (by rw [List.length_map]; exact H.five) H.three
  have hl : (rows.map fun r => getN 0 p.toNat r).length < 64 ∧ (rows.map fun r => getN 0 p.toNat r) ≠ [] := by
    have h5 : (rows.map fun r => getN 0 p.toNat r).length = 5 := by rw [List.length_map]; exact H.five
    exact ⟨h5 ▸ (by decide), fun e => by rw [e] at h5; exact nomatch h5⟩
  rw [vo_shape]
  refine TB.cons (asg_of hf (by rw [hn]; exact vo_a _) (by rw [hn]; exact C.toC0) ?_)
  show CT prog w os₀ f (voE w.params) _ _ _
  rw [eC]
  refine CT.map hf (by rw [hn]; exact C.hg) C.hc C.hx C.hk C.hs (items := rows.map .tri) (g := atV p) ?_ (fun f' hf' hn' hA u hu' => ?_) (.frz (v := .tri (rows.map fun r => getN 0 p.toNat r)) ?_ ?_ ?_)
  · refine TE.of_run (X := 800) (n := 20) (by omega) (okV prog w (Nat.le_refl _)) hf (by omega) (by omega) (p := []) ?_
    rw [hn]
    exact (Wr.of_eq vo_it ⟨rfl, rfl⟩).out
  · obtain ⟨r, hr, e⟩ := List.mem_map.mp hu'
    subst e
    rw [vo_fl]
    refine TE.of_run (X := 800) (n := 20) (by omega) (okV prog w (Nat.le_refl _)) hf' (by rw [hA]; omega) (by rw [hA]; omega) (p := []) ?_
    rw [hn', hn]
    exact (Wr.of_eq vo_el ⟨⟨H.lo, H.hi r hr⟩, rfl, rfl⟩).out
  · rw [List.map_map]
    show some ((rows.map fun r => getN 0 p.toNat r).map V.int) = _
    rw [List.map_map]; rfl
  · rw [List.map_map]
    exact List.all_eq_true.mpr fun x hx => by
      obtain ⟨r, -, e⟩ := List.mem_map.mp hx
      exact e ▸ rfl
  · show TB prog w os₀ f [sI 1 (voB w.params)] [("place", .ref 0), ("copies", .tr (rows.map .tri)), ("codes", .tri (rows.map fun r => getN 0 p.toNat r))] ⟨voT p, 1⟩ _
    refine TB.cons (TS.of_run (X := 800) (n := 20) (by omega) (okV prog w (Nat.le_refl _)) hf (by omega) (by omega) (p := []) ?_)
    rw [hn]
    refine (Wr.of_eq vo_1 ⟨⟨hl, trivial⟩, ⟨hl, trivial⟩, ⟨hl, ?_⟩, ?_⟩).out
    · unfold oddP
      rw [M.len]
    · rw [M.lo, M.hi]
end
/-- what _law_voted gives -/
noncomputable def votedF (vs : List V) (st : St) (k : V → St → Prop) : Prop := ∃ rows p v, vs = [.tr (rows.map .tri), .int p] ∧ Vote rows p v ∧ k (.tri [v, v, v]) st
theorem voted_ok {prog : Program} {w : World} {X : Nat} (hX : X ≤ 690) : SpecOk prog w (KK w.params) X 810 votedF := by
  refine spec_isoC (i := voI w.params) (out := fun vs u => ∃ rows p v, vs = [.tr (rows.map .tri), .int p] ∧ Vote rows p v ∧ u = .tri [v, v, v]) (by omega) (ok_810 _) rfl (fun vs st k ⟨rows, p, v, e, H, hk⟩ => ?_) (fun mg mb os₀ f hf hcs hd hu vs u ⟨rows, p, v, e, H, e2⟩ => ?_)
  · subst e
    exact ⟨rfl, rfl, _, rfl, ⟨rows, p, v, rfl, H, rfl⟩, hk⟩
  · subst e e2
    rw [vo_loc, vo_st]
    exact (vo_body hf hcs (by omega) (by omega) H).mono fun fl _ _ x => .inl x
end Mine
end
section
open PySem PySem.W PyProof.Rows PySem.Calls
set_option Elab.async false
set_option maxRecDepth 100000
set_option maxHeartbeats 4000000
namespace Mine
noncomputable def codesOf (x : Str) : List Int := x.cps.toList.map fun c => ((c : Nat) : Int)
noncomputable def ordV : V → V
  | .str x => .int (x.cps.getD 0 0 : Nat)
  | _ => .none
theorem ordV_map (x : Str) : ((x.cps.toList.map fun c => V.str ⟨#[c]⟩).map ordV) = (codesOf x).map .int := by
  unfold codesOf
  rw [List.map_map, List.map_map]
  rfl
theorem codes_len (x : Str) : (codesOf x).length = x.length := by
  unfold codesOf
  rw [List.length_map]
  exact Array.length_toList
theorem rng_items {n : Nat} (h : n ≤ 1000) : iterV (.rng n) = some ((List.range n).map fun i => V.int ((i : Nat) : Int)) := by
  show (match decide (n ≤ sizeLine) with | true => some ((List.range n).map fun i => V.int ((i : Nat) : Int)) | false => none) = _
  rw [decide_eq_true (show n ≤ sizeLine by rw [sizeLine_eq]; exact Nat.le_trans h (by decide))]
/-- the table of _law_sent, within the loop -/
noncomputable def seT (line : Str) (n : Nat) (S : Sent) : List (Nat × O) := (7 + n, .list (refs 7 n)) :: rowsTab .nums 7 S.spoilt ((6, .list (refs 1 5)) :: rowsTab .nums 1 S.copies (seT0 line))
noncomputable abbrev seL (fs : List Int) (n : Nat) : Loc := [("line", .ref 0), ("faults", .tri fs), ("copies", .ref 6), ("spoilt", .ref (7 + n))]
theorem repTab_0 {line : Str} {cs : List Int} {m n : Nat} {b : List (Nat × O)} (hm : 0 < m) (h : getO 0 b = some (.cell (some (.str line)))) : getO 0 (repTab cs m n b) = some (.cell (some (.str line))) := (getO_base hm).trans h
section
variable {prog : Program} {w : World} {mg mb : Str → Option Value} {os₀ : Glo} {f : FD}
/-- ord of each sign -/
theorem ci_te (hf : f.Ok (KK w.params) mg mb) (hcs : f.cs.names = coN w.params) (hd : f.A.depth < 600) (hu : f.A.units < 6000) {line : Str} {v : V} {st : St} (h0 : getO 0 st.objs = some (.cell (some (.str line)))) :
    TE prog w os₀ f (ciE w.params) [("line", .ref 0), ("k", v)] st (fun u st'' => u = .ref st.next ∧ st'' = ⟨(st.next, .nums (codesOf line)) :: st.objs, st.next + 1⟩) := by
  have C := ci_c w.params
  have it := ci_it w.params
  rw [C.he]
  refine CT.te (CT.map hf (by rw [hcs]; exact C.hg) C.hc C.hx C.hk C.hs (items := line.cps.toList.map fun c => V.str ⟨#[c]⟩) (g := ordV) ?_ (fun f' hf' hn hA u hu' => ?_) (.nums (ordV_map line) ⟨rfl, rfl⟩))
  · rw [it]
    exact TE.varC hf (by rw [hcs]; exact co_line _) rfl rfl h0 ⟨rfl, rfl⟩
  · obtain ⟨c, -, e⟩ := List.mem_map.mp hu'
    subst e
    rw [ci_fl]
    refine TE.of_run (X := 900) (n := 20) (by omega) (okQ prog w) hf' (by rw [hA]; omega) (by rw [hA]; omega) (p := []) ?_
    rw [hn, hcs]
    exact (Wr.of_eq ci_el ⟨rfl, rfl, rfl⟩).out
theorem se_01 (hf : f.Ok (KK w.params) mg mb) (hcs : f.cs = (seI w.params).sc) (hd : f.A.depth < 600) (hu : f.A.units < 6000) {line : Str} {fs : List Int} {rest : List Stmt} {k : Fl → Loc → St → Prop}
    (h : TB prog w os₀ f rest (seL fs line.length) ⟨seT line line.length ⟨List.replicate 5 (codesOf line), List.replicate line.length []⟩, 7 + line.length + 1⟩ k) :
    TB prog w os₀ f (sI 0 (seB w.params) :: sI 1 (seB w.params) :: rest) [("line", .ref 0), ("faults", .tri fs)] ⟨seT0 line, 1⟩ k := by
  have hn : f.cs.names = seN w.params := by rw [hcs]; rfl
  have C := co_c w.params
  have S := sp_c w.params
  have eC := C.he
  have eS := S.he
  refine TB.cons (asg_of hf (by rw [hn]; exact co_a _) (by rw [hn]; exact C.toC0) ?_)
  show CT prog w os₀ f (coE w.params) _ _ _
  rw [eC]
  refine CT.rows hf (n := 5) (cs := codesOf line) (by rw [hn]; exact C.hg) C.hc C.hx C.hk C.hs ?_ (fun f' hf' hn' hA v i => ?_) ?_
  · refine TE.of_run (X := 900) (n := 20) (by omega) (okQ prog w) hf (by omega) (by omega) (p := []) ?_
    rw [hn]
    exact (Wr.of_eq co_it ⟨rfl, _, rng_items (by decide), rfl⟩).out
  · rw [co_fl]
    exact ci_te hf' (by rw [hn', hn]) (by rw [hA]; exact hd) (by rw [hA]; exact hu) (repTab_0 (Nat.succ_pos 0) rfl)
  · show TB prog w os₀ f (sI 1 (seB w.params) :: rest) _ _ k
    refine TB.cons (asg_of hf (by rw [hn]; exact sp_a _) (by rw [hn]; exact S.toC0) ?_)
    show CT prog w os₀ f (spE w.params) _ _ _
    rw [eS]
    refine CT.rows hf (n := line.length) (cs := []) (by rw [hn]; exact S.hg) S.hc S.hx S.hk S.hs ?_ (fun f' hf' hn' hA v i => ?_) ?_
    · rw [sp_it]
      exact TE.varC hf (by rw [hn]; exact se_line _) rfl rfl ((getO_cons ..).trans (repTab_0 (Nat.succ_pos 0) rfl)) ⟨rfl, _, rfl, by rw [List.length_map, Array.length_toList]; rfl⟩
    · rw [sp_nil]
      exact TE.nilN ⟨rfl, rfl⟩
    · exact h
end
/-! the table, looked up -/
theorem refs_get {m n i : Nat} (h : i < n) : getN .none i (refs m n) = .ref (m + i) := by
  have e : (refs m n)[i]? = some (.ref (m + i)) := by
    unfold refs
    rw [List.getElem?_map, List.getElem?_range h]; rfl
  exact Option.some.inj ((getN_at (d := V.none) (show i < (refs m n).length by unfold refs; rw [List.length_map, List.length_range]; exact h)).symm.trans e)
theorem refs_len (m n : Nat) : (refs m n).length = n := by
  unfold refs
  rw [List.length_map, List.length_range]
section
variable {line : Str} {n : Nat} {S : Sent} (hs : S.spoilt.length = n) (hc : S.copies.length = 5)
theorem seT_list : getO (7 + n) (seT line n S) = some (.list (refs 7 n)) := (getO_cons ..).trans (if_pos rfl)
include hs in
theorem seT_spoilt {i : Nat} (h : i < n) : getO (7 + i) (seT line n S) = some (.nums (getN [] i S.spoilt)) := by
  refine (getO_cons ..).trans ((if_neg (Nat.ne_of_lt (Nat.add_lt_add_left h 7))).trans ?_)
  exact getO_rows (getN_at (hs ▸ h))
theorem seT_low {i : Nat} (h : i < 7) : getO i (seT line n S) = getO i ((6, .list (refs 1 5)) :: rowsTab .nums 1 S.copies (seT0 line)) := by
  refine (getO_cons ..).trans ((if_neg (Nat.ne_of_lt (Nat.lt_of_lt_of_le h (Nat.le_add_right 7 n)))).trans ?_)
  exact getO_base h
theorem seT_copies : getO 6 (seT line n S) = some (.list (refs 1 5)) := (seT_low (by decide)).trans rfl
theorem seT_line : getO 0 (seT line n S) = some (.cell (some (.str line))) := (seT_low (by decide)).trans ((getO_cons ..).trans ((if_neg (by decide)).trans (getO_base (by decide))))
include hc in
theorem seT_copy {i : Nat} (h : i < 5) : getO (1 + i) (seT line n S) = some (.nums (getN [] i S.copies)) := by
  refine (seT_low (by omega)).trans ((getO_cons ..).trans ((if_neg (by omega)).trans ?_))
  exact getO_rows (getN_at (hc ▸ h))
include hs in
theorem seT_putS {i : Nat} {r : List Int} (h : i < n) : putO (7 + i) (.nums r) (seT line n S) = seT line n ⟨S.copies, S.spoilt.set i r⟩ := by
  refine (putO_cons ..).trans ((if_neg (Nat.ne_of_lt (Nat.add_lt_add_left h 7))).trans ?_)
  exact congrArg _ (putO_rows (hs ▸ h))
include hc in
theorem seT_putC {i : Nat} {r : List Int} (h : i < 5) : putO (1 + i) (.nums r) (seT line n S) = seT line n ⟨S.copies.set i r, S.spoilt⟩ := by
  refine (putO_cons ..).trans ((if_neg (by omega)).trans (congrArg _ ((putO_base (by omega)).trans (congrArg _ ((putO_cons ..).trans ((if_neg (by omega)).trans (congrArg _ (putO_rows (hc ▸ h)))))))))
end
end Mine
end
section
open PySem PySem.W PyProof.Rows PySem.Calls
set_option Elab.async false
set_option maxRecDepth 100000
set_option maxHeartbeats 4000000
namespace Mine
/-! a written text's join of a frozen list of texts -/
theorem strs_pairs {xs : List Value} {ss : List Str} (h : StrsAre xs ss) : ∃ l : List (Str × Tok), strValues l = xs ∧ l.map (·.1) = ss := by
  induction h with
  | nil => exact ⟨[], rfl, rfl⟩
  | cons y t _ ih =>
    obtain ⟨l, e1, e2⟩ := ih
    exact ⟨(y, t) :: l, congrArg (Value.str y t :: ·) e1, congrArg (y :: ·) e2⟩
section
variable {prog : Program} {w : World} {K : Frag} {mg mb : Str → Option Value} {os₀ : Glo} {f : FD} {loc : Loc} {st : St}
theorem TE.joinC {c : Str} {kk : Nat} {cp ap pos : Pos} {e : Expr} {k : V → St → Prop} (hl : ap.endLine = pos.line) (he : notStar e = true)
    (h : TE prog w os₀ f e loc st (fun v st' => ∃ ss, v = .trs ss ∧ JoinOk c ss = true ∧ k (.str (Txt.join c ss)) st')) : TE prog w os₀ f (.Call (.Attribute (.Constant (.str c) kk cp) "join" ap) [e] [] pos) loc st k := by
  intro ρ s Q Ex hR q
  refine wpAny_with_toks (n := s.toks) (Nat.le_refl _) ?_
  refine meth_const (by rw [allPlain, he]; rfl) hl (show 1 + 1 ≤ 29 by decide) (wpAny_Constant_str (smJoin _ _ _ _ _ _ _ _ ?_))
  have hp : allPlain [e] = true := by rw [allPlain, he]; rfl
  refine callWith_of (P := fun _ => True) (by rw [star_plain hp, kw_none (kws := []) rfl]; rfl) (fun h _ => ⟨.machine, .inr (.inl rfl), Looks.of_pure rfl⟩) ?_
  refine evalArgs_kw2 (kw_all (kws := []) rfl) (spliced_more ?_ (star_cons he)) (star_cons he)
  refine h ρ _ _ _ (hR.toks _ (Nat.le_succ _)) fun v st' ρ' val s' hk le hR' hv => ?_
  obtain ⟨ss, e, hok, hk⟩ := hk
  subst e
  refine spliced_none (kwAll_nil ?_)
  rw [kw_names (kws := []) rfl]
  refine ⟨trivial, ?_⟩
  obtain ⟨a, xs, n, Y⟩ := hR'.shown hv rfl
  rw [Y.e]
  obtain ⟨l, e1, e2⟩ := strs_pairs (Y.vr.to_strs.1)
  refine SC.join (l := l) (e1.symm ▸ isList_of Y.at_) e2 hok fun t' tk htk => ?_
  exact q _ _ ρ' _ _ hk le ⟨hR'.fr, hR'.led, hR'.free, hR'.os, hR'.gens, Nat.lt_of_lt_of_le hR.tok htk⟩ (.str _ _ (joinOk_length hok))
end
end Mine
end
section
open PySem PySem.W PyProof.Rows PySem.Calls
set_option Elab.async false
set_option maxRecDepth 100000
set_option maxHeartbeats 4000000
namespace Mine
/-! _law_lines: the votes -/
theorem swaps_no {K : Frag} {mg mb : Str → Option Value} {f : FD} (hf : f.Ok K mg mb) {elt : Expr} {gens : List Comprehension} {scope : Scope} {pos py : Pos} {y : Str} {l : Nat} (hy : getA y f.cs.names = some .cell) : swapsWith (.ListComp elt gens scope pos) (some (.Name y py)) l f.env = pure false := by
  show (pure (f.env.blockKind == .function && f.env.kindOf y == some .local && py.line == pos.line && !(scope.names.any fun (n, k) => n == y && (k == .local || k == .cell))) : Sem Bool) = _
  rw [show f.env.blockKind = .function by unfold Env.blockKind; rw [show f.env.scope.kind = .function from hf.kind]; rfl, show f.env.kindOf y = some .cell from (lookup_getA _ _).trans hy]
  rfl
noncomputable def letF (vs : List V) (st : St) (k : V → St → Prop) : Prop := sf (triOf1 vs) fun ns => k (.int (ns.length : Nat)) st
theorem let_spec {prog : Program} {w : World} {K : Frag} {X : Nat} : BiSpec prog w K X (.builtin "len") letF := len_spec.of fun vs st k h => by
  obtain ⟨ns, e, h⟩ := sf_ok h
  have e := triOf1_ok e
  subst e
  exact ⟨_, ns.map .int, rfl, rfl, by rw [List.length_map]; exact h⟩
noncomputable def ΓI (P : Params) : Gam where
  glob := [("range", .ty "range"), ("len", .bi "len"), ("chr", .bi "chr"), ("_law_voted", .raw 810)]
  fns := []
  plain := []
  meth := []
  prop := []
  bi := []
  ty := []
  sm := []
  cls := []
  spec := [(810, votedF)]
  biS := [("len", letF), ("chr", chrF)]
  tyS := [("range", rngF)]
theorem ok_globI (P : Params) : globTab (KK P) (ΓI P).glob = true := by kernel_rfl!
theorem okI (prog : Program) (w : World) {X : Nat} (hX : X ≤ 690) : (ΓI w.params).Ok prog w (KK w.params) X where
  spec := fun _ _ h => by
    cases List.mem_singleton.mp h
    exact voted_ok hX
  glob := globTab_ok (ok_globI _)
  fns := fun _ h => by cases h
  plain := fun _ _ h => by cases h
  meth := fun _ _ h => by cases h
  prop := fun _ _ h => by cases h
  bi := fun _ _ h => by cases h
  ty := fun _ _ h => by cases h
  cls := fun _ _ _ h => by cases h
  sm := fun _ _ h => by cases h
  biS := fun n sp h => by
    rcases List.mem_cons.mp h with h | h
    · cases h
      exact let_spec
    · cases List.mem_singleton.mp h
      exact chr_spec
  tyS := fun n sp h => by
    cases List.mem_singleton.mp h
    exact rngF_ok
noncomputable abbrev liI (P : Params) : FnI := mkFn (KK P) 815 1 [] [("copies", .arg 0)]
theorem ok_815 (P : Params) : FnOk (KK P) (liI P) := fn_1 (by kernel_rfl!) (by intro S a; kernel_rfl!) (noconst1 rfl)
noncomputable abbrev liB (P : Params) : List Stmt := (liI P).body
noncomputable abbrev liN (P : Params) := (fdAt (KK P) 815).scope.names
noncomputable abbrev lvE (P : Params) : Expr := sE 0 [] (sI 0 (liB P))
theorem lv_c (P : Params) : CL "place" (liN P) (lvE P) := ⟨⟨by kernel_rfl!, by kernel_rfl!, by kernel_rfl!, by kernel_rfl!⟩, by kernel_rfl!, by kernel_rfl!⟩
theorem li_shape (P : Params) : liB P = [sI 0 (liB P), sI 1 (liB P)] := by kernel_rfl!
theorem li_0 (P : Params) : sI 0 (liB P) = .Assign [.Name "votes" (sE 1 [] (sI 0 (liB P))).pos] (lvE P) (sI 0 (liB P)).pos := by kernel_rfl!
theorem li_votes (P : Params) : getA "votes" (liN P) = some .cell := by kernel_rfl!
noncomputable abbrev liS (u : Option V) (cv : V) : St := ⟨[(1, .cell u), (0, .cell (some cv))], 2⟩
noncomputable abbrev liL : Loc := [("votes", .ref 1), ("copies", .ref 0)]
section
variable {P : Params} {cv v : V} {a b c d e : List Int} {j : Int} {o : Option V} {st : St} {ke : Path → V → St → Prop}
theorem li_loc : fnLoc (liI P) 0 [cv] [] = liL := by kernel_rfl!
theorem li_st : fnSt (liI P) ⟨[], 0⟩ [cv] [] = liS none cv := by kernel_rfl!
theorem lv_it : (run (ΓI P) 20).E (liN P) [] liL (liS none (.tr [.tri a, .tri b, .tri c, .tri d, .tri e])) (cIter (lvE P)) ke = ke [] (.rng a.length) (liS none (.tr [.tri a, .tri b, .tri c, .tri d, .tri e])) := by kernel_rfl!
theorem lv_fl : putA "place" v (freeLoc liL (freeNames (cSc (lvE P)).names)) = ([("copies", .ref 0), ("place", v)] : Loc) := by kernel_rfl!
theorem lv_el : (run (ΓI P) 20).E (relNames (liN P) (cSc (lvE P)).names) [] [("copies", .ref 0), ("place", .int j)] (liS o cv) (cElt (lvE P)) ke = votedF [cv, .int j] (liS o cv) (fun v st => ke [] v st) := by kernel_rfl!
end
/-- what is asked of five copies of a line -/
structure LinesH (rows : List (List Int)) (line : Str) : Prop where
  five : rows.length = 5
  len : ∀ r ∈ rows, r.length = line.length
  vote : ∀ j, j < line.length → 3 ≤ (rows.map fun r => getN 0 j r).count (getN 0 j (codesOf line))
  small : line.length ≤ 1000
  chr : ∀ c ∈ line.cps.toList, c ≤ 1114111
noncomputable def tri3 (x : Int) : V := .tri [x, x, x]
noncomputable def lvG (cs : List Int) : V → V
  | .int j => tri3 (getN 0 j.toNat cs)
  | _ => .none
theorem range_get {α : Type} (h : Int → α) (cs : List Int) : (List.range cs.length).map (fun j => h (getN 0 j cs)) = cs.map h := by
  refine List.ext_getElem? fun i => ?_
  rw [List.getElem?_map, List.getElem?_map]
  by_cases hi : i < cs.length
  · rw [List.getElem?_range hi, getN_at (d := 0) hi]; rfl
  · rw [List.getElem?_eq_none (by rw [List.length_range]; exact Nat.not_lt.mp hi), List.getElem?_eq_none (Nat.not_lt.mp hi)]; rfl
section
variable {prog : Program} {w : World} {mg mb : Str → Option Value} {os₀ : Glo} {f : FD}
theorem lv_te (hf : f.Ok (KK w.params) mg mb) (hcs : f.cs.names = liN w.params) (hd : f.A.depth < 600) (hu : f.A.units < 6000) {rows : List (List Int)} {line : Str} (H : LinesH rows line) {k : V → St → Prop} (h : k (.tr ((codesOf line).map tri3)) (liS none (.tr (rows.map .tri)))) :
    TE prog w os₀ f (lvE w.params) liL (liS none (.tr (rows.map .tri))) k := by
  have C := lv_c w.params
  rw [C.he]
  refine CT.te (CT.map hf (by rw [hcs]; exact C.hg) C.hc C.hx C.hk C.hs (items := (List.range line.length).map fun i => V.int ((i : Nat) : Int)) (g := lvG (codesOf line)) ?_ (fun f' hf' hn' hA u hu' => ?_) (.frz (v := .tr ((codesOf line).map tri3)) ?_ ?_ h))
  · have h5 := H.five
    have hl := H.len
    match rows, h5 with
    | [a, b, c, d, e], _ =>
      refine TE.of_run (X := 690) (n := 20) (by omega) (okI prog w (Nat.le_refl _)) hf (by omega) (by omega) (p := []) ?_
      rw [hcs]
      refine (Wr.of_eq lv_it ⟨rfl, ?_⟩).out
      rw [hl a (.head _)]
      exact rng_items H.small
  · obtain ⟨j, hj, e⟩ := List.mem_map.mp hu'
    have hj := List.mem_range.mp hj
    subst e
    rw [lv_fl]
    refine TE.of_run (X := 690) (n := 20) (by omega) (okI prog w (Nat.le_refl _)) hf' (by rw [hA]; omega) (by rw [hA]; omega) (p := []) ?_
    rw [hn', hcs]
    refine (Wr.of_eq lv_el ⟨rows, (j : Int), getN 0 j (codesOf line), rfl, ⟨Int.natCast_nonneg j, fun r hr => ?_, H.five, ?_⟩, rfl, rfl⟩).out
    · rw [H.len r hr]
      exact Int.ofNat_lt.mpr hj
    · exact H.vote j hj
  · rw [List.map_map]
    show some ((codesOf line).map tri3) = some ((List.range line.length).map (fun j => tri3 (getN 0 j (codesOf line))))
    rw [← codes_len line, range_get]
  · rw [List.map_map]
    exact List.all_eq_true.mpr fun x hx => by
      obtain ⟨r, -, e⟩ := List.mem_map.mp hx
      exact e ▸ rfl
end
end Mine
end
section
open PySem PySem.W PyProof.Rows PySem.Calls
set_option Elab.async false
set_option maxRecDepth 100000
set_option maxHeartbeats 4000000
namespace Mine
/-! _law_lines: the three lines -/
noncomputable abbrev roE (P : Params) : Expr := sE 0 [] (sI 1 (liB P))
noncomputable abbrev riE (P : Params) : Expr := atE [1] (cElt (roE P))
noncomputable abbrev roN (P : Params) := relNames (liN P) (cSc (roE P)).names
theorem ro_c (P : Params) : C0 "k" (liN P) (roE P) := ⟨by kernel_rfl!, by kernel_rfl!, by kernel_rfl!, by kernel_rfl!⟩
theorem ro_cell (P : Params) : cellNames (cSc (roE P)).names = (["k"] : List Str) := by kernel_rfl!
theorem ri_c (P : Params) : CL "vote" (roN P) (riE P) := ⟨⟨by kernel_rfl!, by kernel_rfl!, by kernel_rfl!, by kernel_rfl!⟩, by kernel_rfl!, by kernel_rfl!⟩
theorem li_1 (P : Params) : sI 1 (liB P) = .Return (some (roE P)) (sI 1 (liB P)).pos := by kernel_rfl!
theorem ro_elt (P : Params) : cElt (roE P) = .Call (.Attribute (.Constant (.str "") (kC (atE [0, 0] (cElt (roE P)))) (atE [0, 0] (cElt (roE P))).pos) "join" (atE [0] (cElt (roE P))).pos) [riE P] [] (cElt (roE P)).pos := by kernel_rfl!
theorem ro_line (P : Params) : (atE [0] (cElt (roE P))).pos.endLine = (cElt (roE P)).pos.line := by kernel_rfl!
theorem ri_star (P : Params) : notStar (riE P) = true := by kernel_rfl!
theorem ri_it (P : Params) : cIter (riE P) = .Name "votes" (cIter (riE P)).pos := by kernel_rfl!
theorem ro_votes (P : Params) : getA "votes" (roN P) = some .cell := by kernel_rfl!
noncomputable def chV (k : Int) : V → V
  | .tri ns => .str ⟨#[(getN 0 k.toNat ns).toNat]⟩
  | _ => .none
section
variable {P : Params} {v : V} {ns : List Int} {k : Int} {T : List (Nat × O)} {N : Nat} {st : St} {ke : Path → V → St → Prop}
theorem ro_it : (run (ΓI P) 20).E (liN P) [] liL st (cIter (roE P)) ke = ke [] (.rng 3) st := by kernel_rfl!
theorem ro_fl : freeLoc liL (freeNames (cSc (roE P)).names) = ([("votes", .ref 1)] : Loc) := by kernel_rfl!
theorem ri_fl : putA "vote" v (freeLoc [("k", .ref 2), ("votes", .ref 1)] (freeNames (cSc (riE P)).names)) = ([("k", .ref 2), ("vote", v)] : Loc) := by kernel_rfl!
theorem ri_el : (run (ΓI P) 20).E (relNames (roN P) (cSc (riE P)).names) [] [("k", .ref 2), ("vote", .tri ns)] ⟨(2, .cell (some (.int k))) :: T, N⟩ (cElt (riE P)) ke = ((0 ≤ k ∧ k < (ns.length : Int)) ∧ ((0 ≤ getN 0 k.toNat ns ∧ getN 0 k.toNat ns ≤ 1114111) ∧ ke [] (chV k (.tri ns)) ⟨(2, .cell (some (.int k))) :: T, N⟩)) := by kernel_rfl!
end
/-- a line, put together of its signs -/
noncomputable def signsOf (x : Str) : List Str := x.cps.toList.map fun c => ⟨#[c]⟩
theorem join_nil (ss : List Str) : (Txt.join "" ss).cps.toList = ss.flatMap (·.cps.toList) := by
  unfold Txt.join
  rw [StrLaws.glued_eq_join]
  induction ss with
  | nil => rfl
  | cons x r ih =>
    cases r with
    | nil => exact (List.append_nil _).symm
    | cons y r =>
      rw [List.flatMap_cons, ← ih]
      show (x.cps ++ #[] ++ (Str.join "" (y :: r)).cps).toList = _
      rw [Array.append_empty, Array.toList_append]
theorem join_signs (x : Str) : Txt.join "" (signsOf x) = x := by
  have e : (Txt.join "" (signsOf x)).cps.toList = x.cps.toList := by
    rw [join_nil]
    unfold signsOf
    generalize x.cps.toList = l
    induction l with
    | nil => rfl
    | cons c r ih => rw [List.map_cons, List.flatMap_cons, ih]; rfl
  exact congrArg Str.mk (Array.toList_inj.mp e)
theorem join_ok {x : Str} (h : x.length ≤ 1000) : JoinOk "" (signsOf x) = true := by
  refine joinOk_of ?_
  have e : ((signsOf x).map (·.length)).sum = x.cps.toList.length := by
    unfold signsOf
    generalize x.cps.toList = l
    induction l with
    | nil => rfl
    | cons c r ih => rw [List.map_cons, List.map_cons, List.sum_cons, ih, List.length_cons, Nat.add_comm]; rfl
  rw [e, Array.length_toList]
  exact Nat.le_trans (Nat.add_le_add (Nat.le_trans (show x.cps.size ≤ 1000 from h) (Nat.le_refl 1000)) (Nat.le_of_eq (Nat.mul_zero _))) (by decide)
theorem chV_map {line : Str} {k : Nat} (hk : k < 3) : ((codesOf line).map tri3).map (chV (k : Int)) = (signsOf line).map .str := by
  unfold codesOf signsOf
  rw [List.map_map, List.map_map, List.map_map]
  refine List.map_congr_left fun c _ => ?_
  match k, hk with
  | 0, _ => rfl
  | 1, _ => rfl
  | 2, _ => rfl
section
variable {prog : Program} {w : World} {mg mb : Str → Option Value} {os₀ : Glo} {f : FD}
/-- one line -/
theorem ro_te (hf : f.Ok (KK w.params) mg mb) (hcs : f.cs.names = roN w.params) (hd : f.A.depth < 600) (hu : f.A.units < 6000) {line : Str} (hz : line.length ≤ 1000) (hch : ∀ c ∈ line.cps.toList, c ≤ 1114111) {j : Nat} (hj : j < 3) {cv : V} :
    TE prog w os₀ f (cElt (roE w.params)) [("k", .ref 2), ("votes", .ref 1)] ⟨(2, .cell (some (.int (j : Int)))) :: (liS (some (.tr ((codesOf line).map tri3))) cv).objs, 3⟩ (fun u st' => u = .str line ∧ st' = ⟨(2, .cell (some (.int (j : Int)))) :: (liS (some (.tr ((codesOf line).map tri3))) cv).objs, 3⟩) := by
  have C := ri_c w.params
  have eC := C.he
  have it := ri_it w.params
  have hst := ri_star w.params
  have hl := ro_line w.params
  rw [ro_elt]
  refine TE.joinC hl hst ?_
  rw [eC]
  refine CT.te (CT.map hf (by rw [hcs]; exact C.hg) C.hc C.hx C.hk C.hs (items := (codesOf line).map tri3) (g := chV (j : Int)) ?_ (fun f' hf' hn' hA u hu' => ?_) (.frz (v := .trs (signsOf line)) ?_ ?_ ⟨signsOf line, rfl, join_ok hz, ?_, rfl⟩))
  · rw [it]
    exact TE.varC hf (by rw [hcs]; exact ro_votes _) rfl rfl rfl ⟨rfl, rfl⟩
  · obtain ⟨x, hx, e⟩ := List.mem_map.mp hu'
    obtain ⟨c, hc, e2⟩ := List.mem_map.mp hx
    have hc := hch c hc
    subst e e2
    rw [ri_fl]
    refine TE.of_run (X := 690) (n := 20) (by omega) (okI prog w (Nat.le_refl _)) hf' (by rw [hA]; omega) (by rw [hA]; omega) (p := []) ?_
    rw [hn', hcs]
    have e3 : getN 0 (j : Int).toNat [((c : Nat) : Int), (c : Int), (c : Int)] = (c : Int) := by
      match j, hj with
      | 0, _ => rfl
      | 1, _ => rfl
      | 2, _ => rfl
    refine (Wr.of_eq (ri_el (ns := [((c : Nat) : Int), (c : Int), (c : Int)])) ⟨⟨Int.natCast_nonneg j, show (j : Int) < ((3 : Nat) : Int) from Int.ofNat_lt.mpr hj⟩, ?_, rfl, rfl⟩).out
    rw [e3]
    exact ⟨Int.natCast_nonneg c, Int.ofNat_le.mpr hc⟩
  · rw [chV_map hj]; rfl
  · rw [chV_map hj]; exact closed_strs _
  · rw [join_signs]
theorem li_body (hf : f.Ok (KK w.params) mg mb) (hcs : f.cs = (liI w.params).sc) (hd : f.A.depth < 600) (hu : f.A.units < 6000) {rows : List (List Int)} {line : Str} (H : LinesH rows line) :
    TB prog w os₀ f (liB w.params) liL (liS none (.tr (rows.map .tri))) (fun fl _ _ => fl = .ret (.trs [line, line, line])) := by
  have hn : f.cs.names = liN w.params := by rw [hcs]; rfl
  have C := ro_c w.params
  have eC := C.he
  rw [li_shape]
  refine TB.cons ?_
  rw [li_0]
  refine TS.asgC hf (by rw [(lv_c w.params).he]; exact swaps_no hf (by rw [hn]; exact li_votes _)) (by rw [hn]; exact li_votes _) (j := 1) rfl (lv_te hf hn hd hu H ⟨⟨_, rfl⟩, ?_⟩)
  show TB prog w os₀ f [sI 1 (liB w.params)] liL (liS (some (.tr ((codesOf line).map tri3))) (.tr (rows.map .tri))) _
  refine TB.cons ?_
  rw [li_1]
  refine TS.ret ?_
  rw [eC]
  refine CT.te (CT.cell hf (by rw [hn]; exact C.hg) (ro_cell _) C.hk C.hs
    (fun vs acc st' => ∃ i o, acc = List.replicate i (V.str line) ∧ i + vs.length = 3 ∧ vs = ((List.range 3).map fun i => V.int ((i : Nat) : Int)).drop i ∧ st' = ⟨(2, .cell o) :: (liS (some (.tr ((codesOf line).map tri3))) (.tr (rows.map .tri))).objs, 3⟩) ?_ (fun v vs acc st' ⟨i, o, _, _, _, e⟩ => ?_) (fun f' hf' hn' hA v vs acc st' ⟨i, o, e1, e2, e3, e4⟩ => ?_) fun acc st' ⟨i, o, e1, e2, e3, e4⟩ => ?_)
  · refine TE.of_run (X := 690) (n := 20) (by omega) (okI prog w (Nat.le_refl _)) hf (by omega) (by omega) (p := []) ?_
    rw [hn]
    exact (Wr.of_eq ro_it ⟨rfl, _, rng_items (by decide), 0, none, rfl, rfl, rfl, rfl⟩).out
  · exact ⟨o, by rw [e]; rfl⟩
  · have hi : i < 3 := by rw [List.length_cons] at e2; omega
    have hv : v = .int (i : Int) ∧ vs = ((List.range 3).map fun i => V.int ((i : Nat) : Int)).drop (i + 1) := by
      match i, hi with
      | 0, _ => exact ⟨(List.cons.inj e3).1, (List.cons.inj e3).2⟩
      | 1, _ => exact ⟨(List.cons.inj e3).1, (List.cons.inj e3).2⟩
      | 2, _ => exact ⟨(List.cons.inj e3).1, (List.cons.inj e3).2⟩
    rw [ro_fl]
    subst e1 e4
    rw [hv.1]
    refine TE.mono (ro_te hf' (by rw [hn', hn]) (by rw [hA]; exact hd) (by rw [hA]; exact hu) H.small H.chr hi (cv := .tr (rows.map .tri))) fun u st' ⟨e5, e6⟩ => ⟨i + 1, some (.int (i : Int)), ?_, ?_, hv.2, e6⟩
    · rw [e5, List.replicate_succ']
    · rw [← e2, List.length_cons]; omega
  · have hi : i = 3 := e2
    subst hi e1
    exact .frz (v := .trs [line, line, line]) rfl rfl rfl
end
/-- what _law_lines gives -/
noncomputable def linesF (vs : List V) (st : St) (k : V → St → Prop) : Prop := ∃ rows line, vs = [.tr (rows.map .tri)] ∧ LinesH rows line ∧ k (.trs [line, line, line]) st
theorem lines_ok {prog : Program} {w : World} {X : Nat} (hX : X ≤ 590) : SpecOk prog w (KK w.params) X 815 linesF := by
  refine spec_isoC (i := liI w.params) (out := fun vs u => ∃ rows line, vs = [.tr (rows.map .tri)] ∧ LinesH rows line ∧ u = .trs [line, line, line]) (by omega) (ok_815 _) rfl (fun vs st k ⟨rows, line, e, H, hk⟩ => ?_) (fun mg mb os₀ f hf hcs hd hu vs u ⟨rows, line, e, H, e2⟩ => ?_)
  · subst e
    exact ⟨rfl, rfl, _, rfl, ⟨rows, line, rfl, H, rfl⟩, hk⟩
  · subst e e2
    rw [li_loc, li_st]
    exact (li_body hf hcs (by omega) (by omega) H).mono fun fl _ _ x => .inl x
end Mine
end
section
open PySem PySem.W PyProof.Rows PySem.Calls
set_option Elab.async false
set_option maxRecDepth 100000
set_option maxHeartbeats 4000000
namespace Mine
/-! the loop of _law_sent: its parts -/
noncomputable def kidB : Expr → List Expr
  | .BoolOp _ xs _ => xs
  | _ => []
noncomputable abbrev seF (P : Params) : Stmt := sI 2 (seB P)
noncomputable abbrev seD (P : Params) : List Stmt := subS (seF P)
noncomputable abbrev seK (P : Params) (i : Nat) : Expr := getN dE i (kidB (sE 0 [] (sI 2 (seD P))))
noncomputable abbrev seU (P : Params) (i : Nat) : Stmt := sI i (subS (sI 2 (seD P)))
section
variable {P : Params}
theorem se_shape : seB P = [sI 0 (seB P), sI 1 (seB P), seF P, sI 3 (seB P)] := by kernel_rfl!
theorem sef_shape : seF P = .For (.Name "x" (sE 0 [] (seF P)).pos) (.Name "faults" (sE 1 [] (seF P)).pos) (seD P) [] (seF P).pos := by kernel_rfl!
theorem se3_shape : sI 3 (seB P) = .Return (some (.Name "copies" (sE 0 [] (sI 3 (seB P))).pos)) (sI 3 (seB P)).pos := by kernel_rfl!
theorem sed_shape : seD P = [sI 0 (seD P), sI 1 (seD P), sI 2 (seD P)] := by kernel_rfl!
theorem d0_shape : sI 0 (seD P) = .Assign [.Name "copy" (sE 1 [] (sI 0 (seD P))).pos] (sE 0 [] (sI 0 (seD P))) (sI 0 (seD P)).pos := by kernel_rfl!
theorem d1_shape : sI 1 (seD P) = .Assign [.Name "place" (sE 1 [] (sI 1 (seD P))).pos] (.BinOp (sE 0 [0] (sI 1 (seD P))) .Mod (.Call (sE 0 [1, 0] (sI 1 (seD P))) [.Name "line" (sE 0 [1, 1] (sI 1 (seD P))).pos] [] (sE 0 [1] (sI 1 (seD P))).pos) (sE 0 [] (sI 1 (seD P))).pos) (sI 1 (seD P)).pos := by kernel_rfl!
theorem d2_shape : sI 2 (seD P) = .If (.BoolOp .Or [seK P 0, seK P 1] (sE 0 [] (sI 2 (seD P))).pos) [seU P 0, seU P 1] [] (sI 2 (seD P)).pos := by kernel_rfl!
theorem k0_shape : seK P 0 = .Compare (.Name "copy" (atE [0] (seK P 0)).pos) [.In] [.Subscript (.Name "spoilt" (atE [1, 0] (seK P 0)).pos) (.Name "place" (atE [1, 1] (seK P 0)).pos) (atE [1] (seK P 0)).pos] (seK P 0).pos := by kernel_rfl!
theorem k1_shape : seK P 1 = .Compare (.Call (atE [0, 0] (seK P 1)) [.Subscript (.Name "spoilt" (atE [0, 1, 0] (seK P 1)).pos) (.Name "place" (atE [0, 1, 1] (seK P 1)).pos) (atE [0, 1] (seK P 1)).pos] [] (atE [0] (seK P 1)).pos) [.Lt] [.Constant (.int 2) (kC (atE [1] (seK P 1))) (atE [1] (seK P 1)).pos] (seK P 1).pos := by kernel_rfl!
theorem u0_shape : seU P 0 = .Expr (.Call (.Attribute (.Subscript (.Name "spoilt" (sE 0 [0, 0, 0] (seU P 0)).pos) (.Name "place" (sE 0 [0, 0, 1] (seU P 0)).pos) (sE 0 [0, 0] (seU P 0)).pos) "append" (sE 0 [0] (seU P 0)).pos) [.Name "copy" (sE 0 [1] (seU P 0)).pos] [] (sE 0 [] (seU P 0)).pos) (seU P 0).pos := by kernel_rfl!
theorem u1_shape : seU P 1 = .Assign [.Subscript (.Subscript (.Name "copies" (sE 1 [0, 0] (seU P 1)).pos) (.Name "copy" (sE 1 [0, 1] (seU P 1)).pos) (sE 1 [0] (seU P 1)).pos) (.Name "place" (sE 1 [1] (seU P 1)).pos) (sE 1 [] (seU P 1)).pos] (sE 0 [] (seU P 1)) (seU P 1).pos := by kernel_rfl!
theorem u0_line : (sE 0 [0] (seU P 0)).pos.endLine = (sE 0 [] (seU P 0)).pos.line := by kernel_rfl!
theorem u1_comp : noComp (sE 0 [] (seU P 1)) = true := by kernel_rfl!
theorem d0_comp : noComp (sE 0 [] (sI 0 (seD P))) = true := by kernel_rfl!
theorem d1_name : isName (sE 0 [1, 0] (sI 1 (seD P))) = true := by kernel_rfl!
theorem k1_name : isName (atE [0, 0] (seK P 1)) = true := by kernel_rfl!
end
noncomputable abbrev seLx (fs : List Int) (n : Nat) (x : Int) : Loc := [("line", .ref 0), ("faults", .tri fs), ("copies", .ref 6), ("spoilt", .ref (7 + n)), ("x", .int x)]
noncomputable abbrev seLy (fs : List Int) (n : Nat) (x : Int) (c p : V) : Loc := [("line", .ref 0), ("faults", .tri fs), ("copies", .ref 6), ("spoilt", .ref (7 + n)), ("x", .int x), ("copy", c), ("place", p)]
section
variable {P : Params} {fs : List Int} {n : Nat} {x : Int} {c p : V} {st : St} {ke : Path → V → St → Prop}
theorem d0_run : (run (ΓQ P) 20).E (seN P) [] (seLx fs n x) st (sE 0 [] (sI 0 (seD P))) ke = ke [] (.int (x.fmod 5)) st := by kernel_rfl!
theorem d1_run : (run (ΓQ P) 20).E (seN P) [] [("line", .ref 0), ("faults", .tri fs), ("copies", .ref 6), ("spoilt", .ref (7 + n)), ("x", .int x), ("copy", c)] st (sE 0 [0] (sI 1 (seD P))) ke = ke [] (.int (x.fdiv 5)) st := by kernel_rfl!
theorem d1_len : (run (ΓQ P) 20).E (seN P) [] [("line", .ref 0), ("faults", .tri fs), ("copies", .ref 6), ("spoilt", .ref (7 + n)), ("x", .int x), ("copy", c)] st (sE 0 [1, 0] (sI 1 (seD P))) ke = ke [] (.bi "len") st := by kernel_rfl!
theorem k1_len : (run (ΓQ P) 20).E (seN P) [] (seLy fs n x c p) st (atE [0, 0] (seK P 1)) ke = ke [] (.bi "len") st := by kernel_rfl!
theorem u1_run : (run (ΓQ P) 20).E (seN P) [] (seLy fs n x c p) st (sE 0 [] (seU P 1)) ke = ke [] (.int (fV x)) st := by kernel_rfl!
theorem se_kinds : getA "copy" (seN P) = some .local ∧ getA "place" (seN P) = some .local ∧ getA "spoilt" (seN P) = some .local ∧ getA "copies" (seN P) = some .local ∧ getA "x" (seN P) = some .local ∧ getA "faults" (seN P) = some .local := ⟨by kernel_rfl!, by kernel_rfl!, by kernel_rfl!, by kernel_rfl!, by kernel_rfl!, by kernel_rfl!⟩
end
/-- len of a text -/
noncomputable def lstF (vs : List V) (st : St) (k : V → St → Prop) : Prop := sf (one vs) fun v => sf (asS v) fun x => k (.int x.length) st
theorem lst_spec {prog : Program} {w : World} {K : Frag} {X : Nat} : BiSpec prog w K X (.builtin "len") lstF := by
  intro mg mb os₀ f hf hd hu vs st k hk loc ρ s vals Q E hR hv q
  obtain ⟨v, e, hk⟩ := sf_ok hk
  obtain ⟨x, e2, hk⟩ := sf_ok hk
  have e := one_ok e
  have e2 := asS_ok e2
  subst e e2
  obtain ⟨x₁, e₁, a⟩ := hv.one1
  subst e₁
  obtain ⟨t₁, e₁, hx⟩ := a.inv
  rw [e₁]
  exact len_str (str_fit hx) (q _ _ ρ _ _ hk (.refl _) (hR.toks _ (Nat.le_add_right _ 2)) (.int _ _))
end Mine
end
section
open PySem PySem.W PyProof.Rows PySem.Calls
set_option Elab.async false
set_option maxRecDepth 100000
set_option maxHeartbeats 4000000
namespace Mine
/-! an item of an int list is set -/
section
variable {prog : Program} {w : World} {K : Frag} {mg mb : Str → Option Value} {os₀ : Glo} {f : FD} {loc : Loc} {st : St}
structure StoreOk (v ov iv : V) (st : St) (k : Fl → Loc → St → Prop) (loc : Loc) (j : Nat) (ns : List Int) (n m : Int) : Prop where
  v : v = .int n
  o : ov = .ref j
  i : iv = .int m
  at_ : getO j st.objs = some (.nums ns)
  lo : 0 ≤ m
  hi : m < (ns.length : Int)
  k : k .next loc ⟨putO j (.nums (ns.set m.toNat n)) st.objs, st.next⟩
/-- o[i] = value -/
theorem TS.store {o i value : Expr} {p pos : Pos} {k : Fl → Loc → St → Prop} (hs : noComp value = true)
    (h : TE prog w os₀ f value loc st fun v st1 => TE prog w os₀ f o loc st1 fun ov st2 => TE prog w os₀ f i loc st2 fun iv st3 => ∃ j ns n m, StoreOk v ov iv st3 k loc j ns n m) :
    TS prog w os₀ f (.Assign [.Subscript o i p] value pos) loc st k := by
  intro ρ s Q Ex hR q
  refine wpAny_Assign_Subscript (h ρ s _ _ hR fun v st1 ρ1 val s1 h1 le1 hR1 hv => h1 ρ1 s1 _ _ hR1 fun ov st2 ρ2 oval s2 h2 le2 hR2 hov => h2 ρ2 s2 _ _ hR2 fun iv st3 ρ3 ival s3 h3 le3 hR3 hiv => ?_) (swap_plain hs)
  obtain ⟨j, ns, n, m, X⟩ := h3
  have e1 := X.v
  have e2 := X.o
  have e3 := X.i
  subst e1 e2 e3
  obtain ⟨t, e⟩ := hiv.inv
  rw [e]
  exact set_wp hR3 X.at_ X.lo X.hi (hov.mono le3) (hv.mono (le2.trans le3)) fun s' hR' => q _ _ _ _ _ _ X.k (le1.trans (le2.trans le3)) hR' .next
end
end Mine
end
section
open PySem PySem.W PyProof.Rows PySem.Calls
set_option Elab.async false
set_option maxRecDepth 100000
set_option maxHeartbeats 4000000
namespace Mine
/-! one turn of _law_sent's loop -/
noncomputable abbrev idN (a : Nat) : V := .int (a : Int)
section
variable {prog : Program} {w : World} {mg mb : Str → Option Value} {os₀ : Glo} {f : FD}
theorem idxO_list {o : Option O} {vs : List V} {m : Nat} {k : V → Prop} (ho : o = some (.list vs)) (h : m < vs.length) (hk : k (getN .none m vs)) : sf o (idxO false (m : Int) k) := by
  subst ho
  exact ⟨⟨Int.natCast_nonneg m, Int.ofNat_lt.mpr h⟩, hk⟩
structure TurnH (line : Str) (n : Nat) (S : Sent) : Prop where
  hn : line.length = n
  h0 : 0 < n
  hs : S.spoilt.length = n
  hc : S.copies.length = 5
  hr : ∀ i, i < 5 → (getN [] i S.copies).length = n
  hz : ∀ i, (getN [] i S.spoilt).length ≤ 1000
/-- spoilt[place] -/
theorem te_spoilt (hf : f.Ok (KK w.params) mg mb) (hcs : f.cs.names = seN w.params) {line : Str} {n : Nat} {S : Sent} {fs : List Int} {x : Int} {N : Nat} {c : V} {p1 p2 p3 : Pos} {k : V → St → Prop} {m : Nat} (hm : m < n) (h : k (.ref (7 + m)) ⟨seT line n S, N⟩) :
    TE prog w os₀ f (.Subscript (.Name "spoilt" p1) (.Name "place" p2) p3) (seLy fs n x c (idN m)) ⟨seT line n S, N⟩ k := by
  have K := se_kinds (P := w.params)
  refine TE.idx rfl rfl (TE.var hf (by rw [hcs]; exact K.2.2.1) rfl rfl (TE.var hf (by rw [hcs]; exact K.2.1) rfl rfl ?_))
  exact idxO_list seT_list (by rw [refs_len]; exact hm) ((refs_get hm).symm ▸ h)
theorem te_copies (hf : f.Ok (KK w.params) mg mb) (hcs : f.cs.names = seN w.params) {line : Str} {n : Nat} {S : Sent} {fs : List Int} {x : Int} {N : Nat} {p : V} {p1 p2 p3 : Pos} {k : V → St → Prop} {c : Nat} (hc : c < 5) (h : k (.ref (1 + c)) ⟨seT line n S, N⟩) :
    TE prog w os₀ f (.Subscript (.Name "copies" p1) (.Name "copy" p2) p3) (seLy fs n x (idN c) p) ⟨seT line n S, N⟩ k := by
  have K := se_kinds (P := w.params)
  refine TE.idx rfl rfl (TE.var hf (by rw [hcs]; exact K.2.2.2.1) rfl rfl (TE.var hf (by rw [hcs]; exact K.1) rfl rfl ?_))
  exact idxO_list seT_copies (by rw [refs_len]; exact hc) ((refs_get hc).symm ▸ h)
/-- the test -/
theorem se_test (hf : f.Ok (KK w.params) mg mb) (hcs : f.cs.names = seN w.params) (hd : f.A.depth < 600) (hu : f.A.units < 6000) {line : Str} {n : Nat} {S : Sent} (H : TurnH line n S) {fs : List Int} {x : Int} {N : Nat} {k : Bool → St → Prop} (h : k (sentGo S n x) ⟨seT line n S, N⟩) :
    TT prog w os₀ f (.BoolOp .Or [seK w.params 0, seK w.params 1] (sE 0 [] (sI 2 (seD w.params))).pos) (seLy fs n x (idN (fC x)) (idN (fP n x))) ⟨seT line n S, N⟩ k := by
  have K := se_kinds (P := w.params)
  have hm := (fP_ok H.h0 x).2
  have hsp := seT_spoilt (line := line) H.hs hm
  have hul : f.A.units + 70 < cLine := by unfold cLine; omega
  have ht : TT prog w os₀ f (seK w.params 1) (seLy fs n x (idN (fC x)) (idN (fP n x))) ⟨seT line n S, N⟩ (fun c st' => c = decide ((getN [] (fP n x) S.spoilt).length < 2) ∧ st' = ⟨seT line n S, N⟩) := by
    rw [k1_shape]
    refine TT.cmp hf hul rfl (TE.bi1 (X := 900) (sp := lenSpec) hf k1_name len_spec (by omega) (by omega) rfl ?_)
    refine TE.of_run (X := 900) (n := 20) (by omega) (okQ prog w) hf (by omega) (by omega) (p := []) ?_
    rw [hcs]
    refine (Wr.of_eq k1_len ⟨rfl, te_spoilt hf hcs hm ⟨_, (getN [] (fP n x) S.spoilt).map .int, rfl, ?_, TE.int ?_⟩⟩).out
    · show (match getO (7 + fP n x) (seT line n S) with | some o => showO o | none => none) = _
      rw [hsp]; rfl
    · refine ⟨?_, rfl⟩
      rw [List.length_map]
      exact decide_eq_decide.mpr ⟨fun h => Int.ofNat_lt.mp h, fun h => Int.ofNat_lt.mpr h⟩
  refine TT.or2 ?_
  rw [k0_shape]
  refine TT.cmp hf hul rfl (TE.var hf (by rw [hcs]; exact K.1) rfl rfl (te_spoilt hf hcs hm ?_))
  show sf (match getO (7 + fP n x) (seT line n S) with | some o => numsIn o | none => none) _
  rw [hsp]
  show (match decide ((fC x : Int) ∈ getN [] (fP n x) S.spoilt) with | true => k true _ | false => TT prog w os₀ f (seK w.params 1) _ _ k)
  unfold sentGo at h
  cases e : decide ((fC x : Int) ∈ getN [] (fP n x) S.spoilt) with
  | true => rw [e] at h; exact h
  | false =>
    rw [e, Bool.false_or] at h
    exact TT.mono ht fun c st' ⟨e1, e2⟩ => by rw [e1, e2]; exact h
/-- what is done to a copy -/
theorem se_go (hf : f.Ok (KK w.params) mg mb) (hcs : f.cs.names = seN w.params) (hd : f.A.depth < 600) (hu : f.A.units < 6000) {line : Str} {n : Nat} {S : Sent} (H : TurnH line n S) {fs : List Int} {x : Int} {N : Nat} {k : Fl → Loc → St → Prop}
    (h : k .next (seLy fs n x (idN (fC x)) (idN (fP n x))) ⟨seT line n ⟨S.copies.set (fC x) ((getN [] (fC x) S.copies).set (fP n x) (fV x)), S.spoilt.set (fP n x) (getN [] (fP n x) S.spoilt ++ [(fC x : Int)])⟩, N⟩) :
    TB prog w os₀ f [seU w.params 0, seU w.params 1] (seLy fs n x (idN (fC x)) (idN (fP n x))) ⟨seT line n S, N⟩ k := by
  have K := se_kinds (P := w.params)
  have hm := (fP_ok H.h0 x).2
  have hcc := (fC_ok x).2
  have hsp := seT_spoilt (line := line) H.hs hm
  have H2 : (S.spoilt.set (fP n x) (getN [] (fP n x) S.spoilt ++ [(fC x : Int)])).length = n := by rw [List.length_set]; exact H.hs
  refine TB.cons ?_
  rw [u0_shape]
  refine TS.expr hf rfl (TE.appSub hf u0_line rfl (te_spoilt hf hcs hm ⟨_, _, rfl, hsp, ?_, TE.var hf (by rw [hcs]; exact K.1) rfl rfl ⟨rfl, _, rfl, ?_⟩⟩))
  · have := H.hz (fP n x)
    rw [sizeLine_eq]; omega
  · rw [show putO (7 + fP n x) (.nums (getN [] (fP n x) S.spoilt ++ [(fC x : Int)])) (St.mk (seT line n S) N).objs = _ from seT_putS H.hs hm]
    show TB prog w os₀ f [seU w.params 1] _ _ k
    refine TB.cons ?_
    rw [u1_shape]
    refine TS.store u1_comp ?_
    refine TE.of_run (X := 900) (n := 20) (by omega) (okQ prog w) hf (by omega) (by omega) (p := []) ?_
    rw [hcs]
    refine (Wr.of_eq u1_run (te_copies hf hcs hcc (TE.var hf (by rw [hcs]; exact K.2.1) rfl rfl ⟨_, _, _, _, rfl, rfl, rfl, seT_copy (S := ⟨S.copies, S.spoilt.set (fP n x) (getN [] (fP n x) S.spoilt ++ [(fC x : Int)])⟩) H.hc hcc, Int.natCast_nonneg _, ?_, ?_⟩))).out
    · rw [H.hr _ hcc]
      exact Int.ofNat_lt.mpr hm
    · show TB prog w os₀ f [] _ _ k
      refine TB.nil ?_
      show k .next (seLy fs n x (idN (fC x)) (idN (fP n x))) ⟨putO (1 + fC x) (.nums ((getN [] (fC x) S.copies).set (fP n x) (fV x))) (seT line n ⟨S.copies, S.spoilt.set (fP n x) (getN [] (fP n x) S.spoilt ++ [(fC x : Int)])⟩), N⟩
      rw [seT_putC (S := ⟨S.copies, S.spoilt.set (fP n x) (getN [] (fP n x) S.spoilt ++ [(fC x : Int)])⟩) H.hc hcc]
      exact h
theorem se_turn (hf : f.Ok (KK w.params) mg mb) (hcs : f.cs.names = seN w.params) (hd : f.A.depth < 600) (hu : f.A.units < 6000) {line : Str} {n : Nat} {S : Sent} (H : TurnH line n S) {fs : List Int} {x : Int} {N : Nat} {k : Fl → Loc → St → Prop}
    (h : k .next (seLy fs n x (idN (fC x)) (idN (fP n x))) ⟨seT line n (sentStep n S x), N⟩) : TB prog w os₀ f (seD w.params) (seLx fs n x) ⟨seT line n S, N⟩ k := by
  have K := se_kinds (P := w.params)
  rw [sed_shape]
  refine TB.cons ?_
  rw [d0_shape]
  refine TS.asg hf d0_comp (by rw [hcs]; exact K.1) (TE.of_run (X := 900) (n := 20) (by omega) (okQ prog w) hf (by omega) (by omega) (p := []) ?_)
  rw [hcs]
  refine (Wr.of_eq d0_run ?_).out
  show TB prog w os₀ f [sI 1 (seD w.params), sI 2 (seD w.params)] [("line", .ref 0), ("faults", .tri fs), ("copies", .ref 6), ("spoilt", .ref (7 + n)), ("x", .int x), ("copy", .int (x.fmod 5))] _ k
  refine TB.cons ?_
  rw [d1_shape]
  refine TS.asg hf rfl (by rw [hcs]; exact K.2.1) (TE.bin (TE.of_run (X := 900) (n := 20) (by omega) (okQ prog w) hf (by omega) (by omega) (p := []) ?_))
  rw [hcs]
  refine (Wr.of_eq d1_run (TE.bi1 (X := 900) (sp := lstF) hf d1_name lst_spec (by omega) (by omega) rfl (TE.of_run (X := 900) (n := 20) (by omega) (okQ prog w) hf (by omega) (by omega) (p := []) ?_))).out
  rw [hcs]
  refine (Wr.of_eq d1_len ⟨rfl, TE.varC hf (by rw [hcs]; exact se_line _) rfl rfl (seT_line (line := line) (n := n) (S := S)) ⟨fun v st => v = .int ((x.fdiv 5).fmod n) ∧ st = ⟨seT line n S, N⟩, ?_, fun v st ⟨e1, e2⟩ => ?_⟩⟩).out
  · rw [H.hn]
    have hb : decide ((n : Int) = 0) = false := decide_eq_false (by have := H.h0; omega)
    show sf (match (match decide ((n : Int) = 0) with | true => none | false => some ((none : Option Prop), V.int ((x.fdiv 5).fmod n))) with | some r => some r | none => _) _
    rw [hb]
    exact ⟨rfl, rfl⟩
  · subst e1 e2
    rw [(fC_ok x).1, (fP_ok H.h0 x).1]
    show TB prog w os₀ f [sI 2 (seD w.params)] (seLy fs n x (idN (fC x)) (idN (fP n x))) ⟨seT line n S, N⟩ k
    refine TB.cons ?_
    rw [d2_shape]
    refine TS.ite (se_test hf hcs hd hu H ?_)
    unfold sentStep at h
    cases e : sentGo S n x with
    | true =>
      rw [e] at h
      exact se_go hf hcs hd hu H (TB.nil h)
    | false =>
      rw [e] at h
      exact TB.nil (TB.nil h)
end
end Mine
end
section
open PySem PySem.W PyProof.Rows PySem.Calls
set_option Elab.async false
set_option maxRecDepth 100000
set_option maxHeartbeats 4000000
namespace Mine
/-! lists within a list, frozen -/
section
variable {w : World} {os₀ : Glo} {h₀ : Heap} {L : Addr} {outs : Fx} {loc : Loc} {st : St} {ρ : Lab} {s : Shared}
/-- an int list of the table is frozen -/
theorem R.freezeNums (r : R w os₀ h₀ L outs loc st ρ s) {j : Nat} {is : List Int} {val : Value} (ho : getO j st.objs = some (.nums is)) (hv : VR ρ (.ref j) val) :
    ∃ ρ', ρ'.of = ρ.of ∧ LabLe ρ ρ' ∧ VR ρ' (.tri is) val ∧ R w os₀ h₀ L outs loc ⟨delO j st.objs, st.next⟩ ρ' s := by
  obtain ⟨m, M⟩ := r.fr
  obtain ⟨nw, D⟩ := r.led
  obtain ⟨a, l, pre, post, lr, Z⟩ := D.T.pick ho
  obtain ⟨c, fs, Y⟩ := Z.r
  obtain ⟨n, xs, el, h1, h2⟩ := Z.at_.inv
  obtain ⟨b, eb, hb⟩ := hv.inv
  rw [Z.of] at hb
  rw [eb, ← Option.some.inj hb]
  have e := Z.e
  rw [Y.e, el] at e
  have le : LabLe ρ ⟨ρ.of, (a, listOf xs.toArray n) :: ρ.im⟩ := ⟨fun _ _ h => h, fun _ h => .tail _ h⟩
  have e2 : (pre ++ (post ++ (outs.raw ++ ((a, listOf xs.toArray n) :: ρ.im ++ (c ++ fs))))).Perm (pre ++ ([(a, listOf xs.toArray n)] ++ (post ++ (outs.raw ++ (ρ.im ++ (c ++ fs)))))) := by
    refine List.Perm.append_left _ ?_
    rw [← List.append_assoc post, ← List.append_assoc post]
    exact List.perm_middle
  have X := News.perm e2 (e ▸ D.N) (e ▸ D.nd)
  exact ⟨⟨ρ.of, (a, listOf xs.toArray n) :: ρ.im⟩, rfl, le, .tri (.head _) h1 h2, ⟨m, M.F, fun x v e => (M.hm x v e).mono le⟩, ⟨_, X.1, (Z.del (RestIs os₀ outs ((a, listOf xs.toArray n) :: ρ.im)) _ ⟨c, fs, rfl, Y.ct, Y.fr⟩).mono le, X.2⟩, r.free, r.os, r.gens, r.tok⟩
/-- a list of the table, told by other clean values for the same things -/
theorem R.view (r : R w os₀ h₀ L outs loc st ρ s) {j : Nat} {vs vs' : List V} (ho : getO j st.objs = some (.list vs)) (hn : vs'.length = vs.length) (h : ∀ xs, VRs ρ vs xs → VRs ρ vs' xs) : R w os₀ h₀ L outs loc ⟨putO j (.list vs') st.objs, st.next⟩ ρ s := by
  obtain ⟨ns, D⟩ := r.led
  obtain ⟨a, l, pre, post, lr, Z⟩ := D.T.pick ho
  obtain ⟨c, fs, Y⟩ := Z.r
  obtain ⟨n, xs, el, h1, h2⟩ := Z.at_.inv
  have e := Z.e
  rw [Y.e] at e
  refine ⟨r.fr, ⟨ns, D.N, ?_, D.nd⟩, r.free, r.os, r.gens, r.tok⟩
  rw [e]
  exact Z.put _ _ (.list vs') _ ⟨c, fs, rfl, Y.ct, Y.fr⟩ (el ▸ .list (h _ h1) (hn ▸ h2))
end
end Mine
end
section
open PySem PySem.W PyProof.Rows PySem.Calls
set_option Elab.async false
set_option maxRecDepth 100000
set_option maxHeartbeats 4000000
namespace Mine
/-! the rows of a list, frozen one by one -/
theorem getO_del {k j : Nat} (h : ¬k = j) {b : List (Nat × O)} : getO k (delO j b) = getO k b := by
  induction b with
  | nil => rfl
  | cons p r ih =>
    obtain ⟨i, o⟩ := p
    show getO k (match Nat.beq j i with | true => r | false => (i, o) :: delO j r) = _
    cases e : Nat.beq j i with
    | true =>
      have e := beq_eq e
      subst e
      exact ((getO_cons ..).trans (if_neg h)).symm
    | false => exact (getO_cons ..).trans ((congrArg (fun t => if k = i then some o else t) ih).trans (getO_cons ..).symm)
section
variable {w : World} {os₀ : Glo} {h₀ : Heap} {L : Addr} {outs : Fx} {loc : Loc} {s : Shared}
theorem R.freezeAll {js : List Nat} : ∀ {rows : List (List Int)} {st : St} {ρ : Lab} {xs : List Value}, R w os₀ h₀ L outs loc st ρ s → js.Nodup → js.length = rows.length → (∀ (i j : Nat) (r : List Int), js[i]? = some j → rows[i]? = some r → getO j st.objs = some (.nums r)) → VRs ρ (js.map .ref) xs →
    ∃ ρ' objs', LabLe ρ ρ' ∧ ρ'.of = ρ.of ∧ VRs ρ' (rows.map .tri) xs ∧ (∀ k, k ∉ js → getO k objs' = getO k st.objs) ∧ R w os₀ h₀ L outs loc ⟨objs', st.next⟩ ρ' s := by
  induction js with
  | nil =>
    intro rows st ρ xs r _ hl _ hv
    have e : rows = [] := List.length_eq_zero_iff.mp hl.symm
    subst e
    exact ⟨ρ, st.objs, .refl _, rfl, hv, fun _ _ => rfl, r⟩
  | cons j js ih =>
    intro rows st ρ xs r nd hl ho hv
    cases rows with
    | nil => exact nomatch hl
    | cons row rows =>
      have nd := List.nodup_cons.mp nd
      cases hv with
      | cons a b =>
        obtain ⟨ρ1, e1, le1, hv1, r1⟩ := r.freezeNums (ho 0 j row rfl rfl) a
        obtain ⟨ρ2, objs2, le2, e2, hv2, hk, r2⟩ := ih (st := ⟨delO j st.objs, st.next⟩) r1 nd.2 (Nat.succ.inj hl) (fun i k r' h1 h2 => (getO_del (k := k) (j := j) fun e => nd.1 (e ▸ List.mem_of_getElem? h1)).trans (ho (i + 1) k r' h1 h2)) (b.mono le1)
        exact ⟨ρ2, objs2, le1.trans le2, e2.trans e1, .cons (hv1.mono le2) hv2, fun k hk' => (hk k fun h => hk' (.tail _ h)).trans (getO_del (k := k) (j := j) fun e => hk' (e ▸ List.mem_cons_self)), r2⟩
theorem refs_one {ρ ρ' : Lab} (e : ρ'.of = ρ.of) {js : List Nat} : ∀ {xs ys : List Value}, VRs ρ (js.map .ref) xs → VRs ρ' (js.map .ref) ys → ys = xs := by
  induction js with
  | nil =>
    intro xs ys h1 h2
    cases h1
    cases h2
    rfl
  | cons j js ih =>
    intro xs ys h1 h2
    cases h1 with
    | cons a b =>
      cases h2 with
      | cons c d =>
        obtain ⟨p, e1, hp⟩ := a.inv
        obtain ⟨q, e2, hq⟩ := c.inv
        rw [e, hp] at hq
        rw [e1, e2, Option.some.inj hq, ih b d]
theorem getO_putO {k : Nat} {x o : O} {b : List (Nat × O)} (h : getO k b = some o) : getO k (putO k x b) = some x := by
  induction b with
  | nil => exact nomatch h
  | cons p r ih =>
    obtain ⟨j, u⟩ := p
    rw [putO_cons]
    by_cases e : k = j
    · rw [if_pos e, getO_cons, if_pos e]
    · rw [if_neg e, getO_cons, if_neg e]
      rw [getO_cons, if_neg e] at h
      exact ih h
theorem tris_closed (rows : List (List Int)) : (rows.map V.tri).all closedV = true := by
  induction rows with
  | nil => rfl
  | cons r rs ih => exact ih
/-- a list of int lists, frozen whole -/
theorem R.freezeRows {st : St} {ρ : Lab} (r : R w os₀ h₀ L outs loc st ρ s) {j : Nat} {js : List Nat} {rows : List (List Int)} {val : Value} (hj : getO j st.objs = some (.list (js.map .ref))) (hn : j ∉ js) (nd : js.Nodup) (hl : js.length = rows.length)
    (ho : ∀ (i j : Nat) (r : List Int), js[i]? = some j → rows[i]? = some r → getO j st.objs = some (.nums r)) (hv : VR ρ (.ref j) val) :
    ∃ ρ' st', LabLe ρ ρ' ∧ VR ρ' (.tr (rows.map .tri)) val ∧ R w os₀ h₀ L outs [] st' ρ' s := by
  obtain ⟨ns, pre, post, l, a, X⟩ := r.obj hj hv
  obtain ⟨n, xs, el, h1, hz⟩ := X.t.at_.inv
  obtain ⟨ρ1, objs1, le1, e1, hv1, hk, r1⟩ := r.freezeAll nd hl ho h1
  have hj1 := (hk j hn).trans hj
  have r2 := r1.view (st := ⟨objs1, st.next⟩) (vs' := rows.map .tri) hj1 (by rw [List.length_map, List.length_map, hl]) fun ys hy => (refs_one e1 h1 hy) ▸ hv1
  obtain ⟨ρ2, le2, hv2, r3⟩ := r2.freeze (j := j) (v := .tr (rows.map .tri)) (getO_putO hj1) rfl (tris_closed rows) (hv.mono le1)
  exact ⟨ρ2, _, le1.trans le2, hv2, r3⟩
end
end Mine
end
section
open PySem PySem.W PyProof.Rows PySem.Calls
set_option Elab.async false
set_option maxRecDepth 100000
set_option maxHeartbeats 4000000
namespace Mine
/-- what a value becomes when it is frozen -/
noncomputable def Frz (w : World) (os₀ : Glo) (f : FD) (u : V) (st' : St) (v : V) : Prop := ∀ ρ' s' val loc', R w os₀ f.h₀ f.L f.outs loc' st' ρ' s' → VR ρ' u val → ∃ ρ'' l₂ st₃, LabLe ρ' ρ'' ∧ VR ρ'' v val ∧ R w os₀ f.h₀ f.L f.outs l₂ st₃ ρ'' s'
section
variable {prog : Program} {w : World} {K : Frag} {X : Nat}
theorem Frz.rows {os₀ : Glo} {f : FD} {st : St} {j : Nat} {js : List Nat} {rows : List (List Int)} (hj : getO j st.objs = some (.list (js.map .ref))) (hn : j ∉ js) (nd : js.Nodup) (hl : js.length = rows.length)
    (ho : ∀ (i j : Nat) (r : List Int), js[i]? = some j → rows[i]? = some r → getO j st.objs = some (.nums r)) : Frz w os₀ f (.ref j) st (.tr (rows.map .tri)) := fun ρ' s' val loc' hR hv =>
  let ⟨ρ2, st2, le, hv2, hR2⟩ := hR.freezeRows hj hn nd hl ho hv
  ⟨ρ2, _, st2, le, hv2, hR2⟩
/-- the contract of a def whose value can be frozen, out of closed arguments -/
theorem spec_isoX (hX : X ≤ 900) {i : FnI} (I : FnOk K i) (hkw : i.kws = []) {sp : List V → St → (V → St → Prop) → Prop} {out : List V → V → Prop}
    (hsp : ∀ vs st k, sp vs st k → vs.length = i.n ∧ vs.all closedV = true ∧ ∃ v, closedV v = true ∧ out vs v ∧ k v st)
    (h : ∀ (mg mb : Str → Option Value) (os₀ : Glo) (f : FD), f.Ok K mg mb → f.cs = i.sc → f.A.depth < X + 1 → f.A.units < 10 * X + 3 → ∀ vs v, out vs v →
      TB prog w os₀ f i.body (fnLoc i 0 vs []) (fnSt i ⟨[], 0⟩ vs []) (fun fl _ st' => ∃ u, fl = .ret u ∧ Frz w os₀ f u st' v)) :
    SpecOk prog w K X i.f sp := by
  refine ⟨.of I.keep, ?_⟩
  intro mg mb os₀ f hf A' hfr hh hd hu vs st k hk loc ρ s vals Rr hR hv q
  obtain ⟨h1, h2, v, h4, h5, h6⟩ := hsp _ _ _ hk
  obtain ⟨pre, hRf, hback⟩ := hR.hideAll
  rw [← zip_nil_r i.kws]
  refine callR I (f.withRaw (pre ++ f.outs.raw)) (hf.withRaw _) hfr hh (by unfold recursionLimit; omega) (st := ⟨[], 0⟩) hRf (hv.toN h2) .nil h1 (by rw [hkw]; rfl) ?_
  intro f' f'ok hcs hdep hun hfr' ρ₁ s₁ le₁ hR₁ back
  refine h mg mb os₀ f' f'ok hcs (hdep ▸ Nat.succ_lt_succ hd) (hun ▸ Nat.add_lt_add_right hu 3) vs v h5 ρ₁ _ _ _ hR₁ ?_
  intro fl loc' st₂ ρ' fv s' hk' le hR' hfl
  have fin : ∀ (ρ'' : Lab) (val : Value) (l₂ : Loc) (st₃ : St), LabLe ρ₁ ρ'' → R w os₀ f'.h₀ f'.L f'.outs l₂ st₃ ρ'' s' → VR ρ'' v val → Rr (.ok (.ret val)) s' := fun ρ'' val l₂ st₃ le hR' hval => by
    obtain ⟨le₂, hR₂⟩ := hback _ ρ'' s' (le₁.trans le) (back _ _ _ _ (le₁.trans le) hR')
    exact q _ _ _ _ _ h6 le₂ hR₂ (VR.closed (ρ := ρ'') (ρ' := ⟨ρ.of, ρ''.im⟩) (fun _ h => h) hval h4)
  obtain ⟨u, e, F⟩ := hk'
  subst e
  obtain ⟨val, e, hval⟩ := hfl.inv
  subst e
  obtain ⟨ρ₂, l₂, st₃, le₂, hv₂, hR₂⟩ := F _ _ _ _ hR' hval
  exact fin ρ₂ val _ _ (le.trans le₂) hR₂ hv₂
end
end Mine
end
section
open PySem PySem.W PyProof.Rows PySem.Calls
set_option Elab.async false
set_option maxRecDepth 100000
set_option maxHeartbeats 4000000
namespace Mine
/-! _law_sent -/
noncomputable def sent0 (line : Str) : Sent := ⟨List.replicate 5 (codesOf line), List.replicate line.length []⟩
noncomputable def sentOf (line : Str) (fs : List Int) : Sent := fs.foldl (sentStep line.length) (sent0 line)
noncomputable def Few (d : Nat) (S : Sent) : Prop := ∀ s ∈ S.spoilt, s.length ≤ d
theorem getN_few {d : Nat} {S : Sent} (h : Few d S) (i : Nat) : (getN [] i S.spoilt).length ≤ d := by
  by_cases hi : i < S.spoilt.length
  · exact h _ (List.mem_of_getElem? (getN_at (d := []) hi))
  · have : getN ([] : List Int) i S.spoilt = [] := by
      generalize S.spoilt = l at hi
      induction l generalizing i with
      | nil => cases i <;> rfl
      | cons x r ih => cases i with
        | zero => exact absurd (Nat.succ_pos _) hi
        | succ i => exact ih i fun h => hi (Nat.succ_lt_succ h)
    rw [this]
    exact Nat.zero_le _
theorem step_few {d n : Nat} {S : Sent} (x : Int) (h : Few d S) : Few (d + 1) (sentStep n S x) := by
  intro s hs
  unfold sentStep at hs
  cases e : sentGo S n x with
  | false => rw [e] at hs; exact Nat.le_succ_of_le (h s hs)
  | true =>
    rw [e] at hs
    rcases List.mem_or_eq_of_mem_set hs with hs | hs
    · exact Nat.le_succ_of_le (h s hs)
    · rw [hs, List.length_append]
      exact Nat.succ_le_succ (getN_few h _)
theorem inv0 (line : Str) : SentInv (codesOf line) (sent0 line).copies (sent0 line).spoilt := by
  have h := sent_start (codesOf line)
  have e : (codesOf line).map (fun _ => ([] : List Int)) = List.replicate line.length [] := by rw [List.map_const', codes_len]
  rw [e] at h
  exact h
theorem inv_of {line : Str} (h0 : 0 < line.length) (fs : List Int) : SentInv (codesOf line) (sentOf line fs).copies (sentOf line fs).spoilt := by
  have := sent_all (cs := codesOf line) (by rw [codes_len]; exact h0) (xs := fs) (inv0 line)
  rw [codes_len] at this
  exact this
theorem few_of (line : Str) (fs : List Int) : Few fs.length (sentOf line fs) := by
  have : ∀ (fs : List Int) (d : Nat) (S : Sent), Few d S → Few (d + fs.length) (fs.foldl (sentStep line.length) S) := by
    intro fs
    induction fs with
    | nil => exact fun d S h => h
    | cons x r ih =>
      intro d S h
      have := ih (d + 1) _ (step_few (n := line.length) x h)
      rw [Nat.add_assoc, Nat.add_comm 1] at this
      exact this
  have h := this fs 0 (sent0 line) fun s hs => by rw [List.eq_of_mem_replicate hs]; exact Nat.le_refl _
  rw [Nat.zero_add] at h
  exact h
theorem turn_of {line : Str} (h0 : 0 < line.length) {fs : List Int} (hz : fs.length ≤ 1000) : TurnH line line.length (sentOf line fs) := by
  have I := inv_of h0 fs
  refine ⟨rfl, h0, I.l3.trans (codes_len line), I.l1, fun i hi => ?_, fun i => Nat.le_trans (getN_few (few_of line fs) i) hz⟩
  exact (I.l2 i _ (getN_at (I.l1 ▸ hi))).trans (codes_len line)
theorem sentOf_snoc (line : Str) (fs : List Int) (x : Int) : sentOf line (fs ++ [x]) = sentStep line.length (sentOf line fs) x := by
  unfold sentOf
  rw [List.foldl_append]; rfl
noncomputable abbrev lab5 : List Nat := [1, 2, 3, 4, 5]
section
variable {prog : Program} {w : World} {mg mb : Str → Option Value} {os₀ : Glo} {f : FD}
theorem se_body (hf : f.Ok (KK w.params) mg mb) (hcs : f.cs = (seI w.params).sc) (hd : f.A.depth < 600) (hu : f.A.units < 6000) {line : Str} {fs : List Int} (h0 : 0 < line.length) (hz : fs.length ≤ 1000) :
    TB prog w os₀ f (seB w.params) [("line", .ref 0), ("faults", .tri fs)] ⟨seT0 line, 1⟩ (fun fl _ st' => fl = .ret (.ref 6) ∧ st' = ⟨seT line line.length (sentOf line fs), 7 + line.length + 1⟩) := by
  have hn : f.cs.names = seN w.params := by rw [hcs]; rfl
  have K := se_kinds (P := w.params)
  rw [se_shape]
  refine se_01 hf hcs hd hu (TB.cons ?_)
  rw [sef_shape]
  refine TS.forJ hf (by rw [hn]; exact K.2.2.2.2.1) rfl
    (fun vs loc st => ∃ dn rest : List Int, dn ++ rest = fs ∧ vs = rest.map .int ∧ (∀ y v, getA y (seL fs line.length) = some v → getA y loc = some v) ∧ st = ⟨seT line line.length (sentOf line dn), 7 + line.length + 1⟩) ?_ ?_ ?_
  · exact TE.var hf (by rw [hn]; exact K.2.2.2.2.2) rfl rfl ⟨_, rfl, [], fs, rfl, rfl, fun _ _ h => h, rfl⟩
  · intro raw v vs loc st ⟨dn, rest, hdr, hvs, hloc, est⟩
    subst est
    cases rest with
    | nil => exact nomatch hvs
    | cons x rest =>
      obtain ⟨e1, e2⟩ := List.cons.inj hvs
      subst e1 e2
      have hl : dn.length ≤ 1000 := Nat.le_trans (hdr ▸ (by rw [List.length_append]; exact Nat.le_add_right _ _)) hz
      refine TB.weak (loc' := seLx fs line.length x) ?_ (sub_putA hloc "x" (.int x))
      refine se_turn (hf.withRaw raw) hn hd hu (turn_of h0 hl) ⟨dn ++ [x], rest, by rw [← hdr, List.append_assoc]; rfl, rfl, ?_, by rw [sentOf_snoc]⟩
      exact fun y v h => getA_append (l := seL fs line.length) (r := [("x", V.int x), ("copy", idN (fC x)), ("place", idN (fP line.length x))]) h
  · intro loc st ⟨dn, rest, hdr, hvs, hloc, est⟩
    subst est
    have : rest = [] := List.map_eq_nil_iff.mp hvs.symm
    subst this
    rw [List.append_nil] at hdr
    subst hdr
    refine TB.weak (loc' := seL dn line.length) (TB.cons ?_) hloc
    rw [se3_shape]
    exact TS.ret (TE.var hf (by rw [hn]; exact K.2.2.2.1) rfl rfl ⟨rfl, rfl⟩)
end
/-- what _law_sent gives -/
noncomputable def sentF (vs : List V) (st : St) (k : V → St → Prop) : Prop := match vs with
  | [.str line, .tri fs] => (0 < line.length ∧ fs.length ≤ 1000) ∧ k (.tr ((sentOf line fs).copies.map .tri)) st
  | _ => False
theorem sentF_ok {vs : List V} {st : St} {k : V → St → Prop} (h : sentF vs st k) : ∃ line fs, vs = [.str line, .tri fs] ∧ (0 < line.length ∧ fs.length ≤ 1000) ∧ k (.tr ((sentOf line fs).copies.map .tri)) st := by
  unfold sentF at h
  split at h
  · exact ⟨_, _, rfl, h⟩
  · exact h.elim
theorem sent_ok {prog : Program} {w : World} {X : Nat} (hX : X ≤ 590) : SpecOk prog w (KK w.params) X 805 sentF := by
  refine spec_isoX (i := seI w.params) (out := fun vs v => ∃ line fs, vs = [.str line, .tri fs] ∧ (0 < line.length ∧ fs.length ≤ 1000) ∧ v = .tr ((sentOf line fs).copies.map .tri)) (by omega) (ok_805 _) rfl (fun vs st k hk => ?_) (fun mg mb os₀ f hf hcs hd hu vs v ho => ?_)
  · obtain ⟨line, fs, e, h1, h2⟩ := sentF_ok hk
    subst e
    exact ⟨rfl, rfl, _, rfl, ⟨line, fs, rfl, h1, rfl⟩, h2⟩
  · obtain ⟨line, fs, e1, ⟨h0, hz⟩, e2⟩ := ho
    subst e1 e2
    rw [se_loc, se_st]
    refine (se_body hf hcs (by omega) (by omega) h0 hz).mono fun fl _ st' ⟨e1, e2⟩ => ⟨_, e1, ?_⟩
    subst e2
    have H := turn_of h0 hz
    refine Frz.rows (js := lab5) seT_copies (by decide) (by decide) (by rw [H.hc]; rfl) fun i j r h1 h2 => ?_
    have hi : i < 5 := (List.getElem?_eq_some_iff.mp h1).1
    have hj : j = 1 + i := by
      have : lab5[i]? = some (1 + i) := by
        match i, hi with
        | 0, _ => rfl
        | 1, _ => rfl
        | 2, _ => rfl
        | 3, _ => rfl
        | 4, _ => rfl
      exact Option.some.inj (h1.symm.trans this)
    subst hj
    have := getN_at (d := []) (l := (sentOf line fs).copies) (H.hc ▸ hi)
    rw [h2] at this
    rw [Option.some.inj this]
    exact seT_copy H.hc hi
end Mine
end
section
open PySem PySem.W PyProof.Rows PySem.Calls
set_option Elab.async false
set_option maxRecDepth 100000
set_option maxHeartbeats 4000000
namespace Mine
/-! the words of law 02 -/
noncomputable def pieces : List Str := ["", "a", "'", "b", "\"", " ", "#", "Z"]
noncomputable def words64 : List Str := pieces.flatMap fun a => pieces.map fun b => a ++ b
theorem word_mem {a b : Str} (ha : a ∈ pieces) (hb : b ∈ pieces) : a ++ b ∈ words64 := List.mem_flatMap.mpr ⟨a, ha, List.mem_map.mpr ⟨b, hb, rfl⟩⟩
noncomputable def calm (l : List Nat) : Bool := l.all fun c => Nat.beq c 97 || (Nat.beq c 98 || Nat.beq c 90)
noncomputable def quoteW (x : Str) : Str := match x.cps.toList with
  | [] => "''"
  | c :: l => match calm (c :: l) with
    | true => x
    | false => quoted x
noncomputable def isNoneR : Fin → Bool
  | .done (.ret .none) => true
  | _ => false
noncomputable def missB (P : Params) (p : Program) (t : Tok) (x : Str) : Bool := match peek (KK P) ⟨p, P⟩ (Builtin.«re.Pattern.search» ⟨[.ref 83, .str x t], []⟩) with
  | some f => isNoneR f
  | none => false
noncomputable def qChk (P : Params) (p : Program) (t : Tok) (x : Str) : Bool := Nat.ble x.length 100 && (match x.cps.toList with
  | [] => true
  | c :: l => match calm (c :: l) with
    | true => missB P p t x
    | false => hitB P p t x && Nat.ble (Txt.replace x (Str.ofString "'") (Str.ofString "'\"'\"'")).length 1000)
theorem qchk_all (P : Params) (p : Program) (t : Tok) : words64.all (qChk P p t) = true := by kernel_rfl!
/-- a word and what is read of it, with a blank behind -/
noncomputable def rdBlank (r : List Nat) (x : Str) : Option (Bool × List Nat × Bool × List Nat) := rd false ((quoteW x).cps.toList ++ 32 :: r) .sp false []
noncomputable def rdLast (x : Str) : Option (Bool × List Nat × Bool × List Nat) := rd false (quoteW x).cps.toList .sp false []
noncomputable def flagW (x : Str) : Bool := match x.cps.toList with
  | [] => true
  | c :: l => !(calm (c :: l))
theorem rdBlank_all (r : List Nat) : words64.map (rdBlank r) = words64.map fun x => some (flagW x, x.cps.toList, false, r) := by kernel_rfl!
theorem rdLast_all : words64.map rdLast = words64.map fun x => some (flagW x, x.cps.toList, true, []) := by kernel_rfl!
theorem map_at {α β : Type} {f g : α → β} {l : List α} (h : l.map f = l.map g) {x : α} (hx : x ∈ l) : f x = g x := List.map_inj_left.mp h x hx
theorem isNoneR_ok {f : Fin} (h : isNoneR f = true) : f = .done (.ret .none) := by
  cases f with
  | done fl => cases fl with
    | ret v => cases v with
      | none => rfl
      | _ => exact absurd h Bool.false_ne_true
    | _ => exact absurd h Bool.false_ne_true
  | _ => exact absurd h Bool.false_ne_true
theorem str_nil {x : Str} (h : x.cps.toList = []) : x = "" := by
  obtain ⟨⟨l⟩⟩ := x
  exact congrArg (fun l : List Nat => (⟨⟨l⟩⟩ : Str)) h
theorem qok_word {P : Params} {x : Str} (hx : x ∈ words64) : QOk P x (quoteW x) := by
  have h := fun (p : Program) (t : Tok) => Bool.and_eq_true_iff.mp (List.all_eq_true.mp (qchk_all P p t) x hx)
  cases e : x.cps.toList with
  | nil =>
    have e := str_nil e
    subst e
    exact .inl ⟨rfl, rfl⟩
  | cons c l =>
    have hne : x.length ≠ 0 := fun e2 => by
      have e3 : x.cps.toList.length = 0 := (Array.length_toList).trans e2
      rw [e] at e3; exact nomatch e3
    have hle : x.length ≤ 100 := Nat.le_of_ble_eq_true (h PW 0).1
    have h2 := fun p t => (h p t).2
    have eq : quoteW x = match calm (c :: l) with | true => x | false => quoted x := by unfold quoteW; rw [e]
    rw [e] at h2
    rw [eq]
    cases e4 : calm (c :: l) with
    | true =>
      refine .inr (.inl ⟨⟨hne, hle, fun p t => ?_⟩, rfl⟩)
      have h3 : (match calm (c :: l) with | true => missB P p t x | false => hitB P p t x && Nat.ble (Txt.replace x (Str.ofString "'") (Str.ofString "'\"'\"'")).length 1000) = true := h2 p t
      rw [e4] at h3
      have h3 : missB P p t x = true := h3
      unfold missB at h3
      cases e5 : peek (KK P) ⟨p, P⟩ (Builtin.«re.Pattern.search» ⟨[.ref 83, .str x t], []⟩) with
      | none => rw [e5] at h3; exact absurd h3 Bool.false_ne_true
      | some f => rw [e5] at h3; exact congrArg some (isNoneR_ok h3)
    | false =>
      have h4 := fun p t => Bool.and_eq_true_iff.mp (show (hitB P p t x && Nat.ble (Txt.replace x (Str.ofString "'") (Str.ofString "'\"'\"'")).length 1000) = true from by
        have h3 : (match calm (c :: l) with | true => missB P p t x | false => hitB P p t x && Nat.ble (Txt.replace x (Str.ofString "'") (Str.ofString "'\"'\"'")).length 1000) = true := h2 p t
        rw [e4] at h3; exact h3)
      exact .inr (.inr ⟨⟨hne, hle, fun p t => (h4 p t).1, Nat.le_of_ble_eq_true (h4 PW 0).2⟩, rfl⟩)
theorem join_cps (x y : Str) (r : List Str) : (Txt.join " " (x :: y :: r)).cps.toList = x.cps.toList ++ 32 :: (Txt.join " " (y :: r)).cps.toList := by
  unfold Txt.join
  rw [StrLaws.glued_eq_join, StrLaws.glued_eq_join]
  show (x.cps ++ #[32] ++ (Str.join " " (y :: r)).cps).toList = _
  rw [Array.toList_append, Array.toList_append, List.append_assoc]
  rfl
theorem flag_ok (x : Str) : ¬(flagW x = false ∧ x.cps.toList = []) := fun h => by
  have h1 := h.1
  unfold flagW at h1
  rw [h.2] at h1
  exact nomatch h1
theorem toks_at {k : Nat} {l t r : List Nat} {q e : Bool} (h : rd false l .sp false [] = some (q, t, e, r)) (hq : ¬(q = false ∧ t = [])) : toks false (k + 1) l = if e = true then some [t] else (toks false k r).map (t :: ·) := by
  have h1 : toks false (k + 1) l = (match rd false l .sp false [] with | none => none | some (q, t, ended, r) => if q = false ∧ t = [] then some [] else if ended then some [t] else (toks false k r).map (t :: ·)) := rfl
  rw [h1, h]
  exact if_neg hq
theorem toks_words {ws : List Str} : ws ≠ [] → (∀ x ∈ ws, x ∈ words64) → toks false ws.length (Txt.join " " (ws.map quoteW)).cps.toList = some (ws.map (·.cps.toList)) := by
  induction ws with
  | nil => exact fun h => absurd rfl h
  | cons x r ih =>
    intro _ h
    have hx := h x (.head _)
    cases r with
    | nil =>
      have e : (Txt.join " " ([x].map quoteW)) = quoteW x := by unfold Txt.join; rw [StrLaws.glued_eq_join]; rfl
      rw [e]
      exact (toks_at (k := 0) (map_at rdLast_all hx) (flag_ok x)).trans rfl
    | cons y r =>
      rw [List.map_cons, List.map_cons, join_cps]
      have ih := ih (List.cons_ne_nil _ _) fun z hz => h z (.tail _ hz)
      rw [List.map_cons] at ih
      refine (toks_at (k := (y :: r).length) (map_at (rdBlank_all _) hx) (flag_ok x)).trans ?_
      rw [if_neg Bool.false_ne_true, ih]
      rfl
end Mine
end
section
open PySem PySem.W PyProof.Rows PySem.Calls
set_option Elab.async false
set_option maxRecDepth 100000
set_option maxHeartbeats 4000000
namespace Mine
theorem quoteW_len : words64.all (fun x => Nat.ble (quoteW x).length 12) = true := by kernel_rfl!
theorem words_sum {ws : List Str} (h : ∀ x ∈ ws, x ∈ words64) : ((ws.map quoteW).map (·.length)).sum ≤ ws.length * 12 := by
  induction ws with
  | nil => exact Nat.le_refl _
  | cons x r ih =>
    have h1 := Nat.le_of_ble_eq_true (List.all_eq_true.mp quoteW_len x (h x (.head _)))
    have h2 := ih fun y hy => h y (.tail _ hy)
    rw [List.map_cons, List.map_cons, List.sum_cons, List.length_cons, Nat.succ_mul, Nat.add_comm]
    exact Nat.add_le_add h2 h1
theorem join_as {P : Params} {ws : List Str} (h : ∀ x ∈ ws, x ∈ words64) (hn : ws.length ≤ 4) : JoinAs P ws (ws.map quoteW) := by
  have hs := words_sum h
  have hok : JoinOk " " (ws.map quoteW) = true := by
    unfold JoinOk
    rw [StrLaws.joinTotal]
    have h1 : ((ws.map quoteW).map (·.length)).sum + (ws.map quoteW).length * (Str.ofString " ").length ≤ 4 * 12 + 4 * 1 := by
      rw [List.length_map]
      exact Nat.add_le_add (Nat.le_trans hs (Nat.mul_le_mul_right _ hn)) (Nat.mul_le_mul_right _ hn)
    have h2 : 4 * 12 + 4 * 1 ≤ sizeLine := by rw [sizeLine_eq]; decide
    exact Bool.not_eq_true' _ ▸ (show decide (_ > sizeLine) = false from decide_eq_false (Nat.not_lt.mpr (Nat.le_trans h1 h2)))
  refine ⟨List.length_map _, fun i hi => ?_, hok, joinOk_length hok⟩
  have e : (ws.map quoteW).getD i "" = quoteW (ws.getD i "") := by
    rw [List.getD_eq_getElem?_getD, List.getD_eq_getElem?_getD, List.getElem?_map, List.getElem?_eq_getElem hi]; rfl
  rw [e]
  refine qok_word (h _ ?_)
  rw [List.getD_eq_getElem?_getD, List.getElem?_eq_getElem hi]
  exact List.getElem_mem hi
end Mine
end
section
open PySem PySem.W PyProof.Rows PySem.Calls
set_option Elab.async false
set_option maxRecDepth 100000
set_option maxHeartbeats 4000000
namespace Mine
theorem quoteW_nl : words64.all (fun x => !(memN 10 (quoteW x).cps.toList)) = true := by kernel_rfl!
theorem mkS_list (s : Str) : mkS s.cps.toList = s := by
  obtain ⟨⟨l⟩⟩ := s
  rfl
theorem memN_false {c : Nat} {l : List Nat} (h : memN c l = false) : c ∉ l := fun hm => by
  rw [memN_eq, decide_eq_true hm] at h; exact nomatch h
theorem line_nl {ws : List Str} : (∀ x ∈ ws, x ∈ words64) → 10 ∉ (Txt.join " " (ws.map quoteW)).cps.toList := by
  induction ws with
  | nil => exact fun _ h => nomatch h
  | cons x r ih =>
    intro h
    have hx : 10 ∉ (quoteW x).cps.toList := memN_false (Bool.not_eq_true' _ ▸ List.all_eq_true.mp quoteW_nl x (h x (.head _)))
    cases r with
    | nil =>
      have e : (Txt.join " " ([x].map quoteW)) = quoteW x := by unfold Txt.join; rw [StrLaws.glued_eq_join]; rfl
      rw [e]; exact hx
    | cons y r =>
      rw [List.map_cons, List.map_cons, join_cps]
      intro hm
      rcases List.mem_append.mp hm with hm | hm
      · exact hx hm
      · rcases List.mem_cons.mp hm with e | hm
        · exact nomatch e
        · exact ih (fun z hz => h z (.tail _ hz)) hm
theorem words_split {ws : List Str} (hne : ws ≠ []) (h : ∀ x ∈ ws, x ∈ words64) (hn : ws.length ≤ 4) {P : Params} : SplitOut false (.str (Txt.join " " (ws.map quoteW))) ws := by
  refine ⟨(Txt.join " " (ws.map quoteW)).cps.toList, ws.length, ws.map (·.cps.toList), by rw [mkS_list], ?_, mem_false (line_nl h), toks_words hne h, ?_, ?_⟩
  · rw [Array.length_toList]; exact (join_as (P := P) h hn).fit
  · rw [List.length_map]; exact Nat.le_trans hn (by rw [sizeLine_eq]; decide)
  · rw [List.map_map, show (mkS ∘ fun x : Str => x.cps.toList) = id from funext mkS_list, List.map_id]
end Mine
end
section
open PySem PySem.W PyProof.Rows PySem.Calls PySem.SeqAt
set_option Elab.async false
set_option maxRecDepth 100000
set_option maxHeartbeats 4000000
namespace Mine
/-! _law_word -/
noncomputable def wordOf (x : Int) : Str := getN ("" : Str) (x.fmod 8).toNat pieces ++ getN ("" : Str) ((x.fdiv 8).fmod 8).toNat pieces
noncomputable abbrev woI (P : Params) : FnI := mkFn (KK P) 800 1 [] [("x", .arg 0)]
theorem ok_800 (P : Params) : FnOk (KK P) (woI P) := fn_1 (by kernel_rfl!) (by intro S a; kernel_rfl!) (noconst1 rfl)
noncomputable abbrev woN (P : Params) := (fdAt (KK P) 800).scope.names
section
variable {P : Params} {x : Int} {st : St} {k : Path → Fl → Loc → St → Prop}
theorem wo_loc : fnLoc (woI P) 0 [.int x] [] = ([("x", .int x)] : Loc) := by kernel_rfl!
theorem wo_run : (run (ΓQ P) 20).B (woN P) [] [("x", .int x)] st (woI P).body k =
    ((0 ≤ x.fmod 8 ∧ x.fmod 8 < (pieces.length : Int)) ∧ ((0 ≤ (x.fdiv 8).fmod 8 ∧ (x.fdiv 8).fmod 8 < (pieces.length : Int)) ∧ ((getN ("" : Str) (x.fmod 8).toNat pieces).length + (getN ("" : Str) ((x.fdiv 8).fmod 8).toNat pieces).length ≤ sizeLine ∧
      k [] (.ret (.str (wordOf x))) [("x", .int x), ("pieces", .trs pieces)] st))) := by kernel_rfl!
end
theorem fmod8 (x : Int) : 0 ≤ x.fmod 8 ∧ x.fmod 8 < 8 := ⟨Int.fmod_nonneg_of_pos x (by decide), Int.fmod_lt_of_pos x (by decide)⟩
theorem piece_mem {x : Int} (h : 0 ≤ x ∧ x < 8) : getN ("" : Str) x.toNat pieces ∈ pieces := List.mem_of_getElem? (getN_at (d := ("" : Str)) (l := pieces) ((Int.toNat_lt h.1).mpr h.2))
theorem piece_len : pieces.all (fun x => Nat.ble x.length 1) = true := by decide +kernel
theorem word_in (x : Int) : wordOf x ∈ words64 := word_mem (piece_mem (fmod8 x)) (piece_mem (fmod8 _))
noncomputable def wordF (vs : List V) (st : St) (k : V → St → Prop) : Prop := sf (one vs) fun v => sf (asI v) fun x => k (.str (wordOf x)) st
theorem word_ok {prog : Program} {w : World} {X : Nat} (hX : X ≤ 800) : SpecOk prog w (KK w.params) X 800 wordF := by
  refine spec_isoC (i := woI w.params) (out := fun vs u => ∃ x, vs = [.int x] ∧ u = .str (wordOf x)) (by omega) (ok_800 _) rfl (fun vs st k hk => ?_) (fun mg mb os₀ f hf hcs hd hu vs u ⟨x, e, e2⟩ => ?_)
  · obtain ⟨v, e, hk⟩ := sf_ok hk
    obtain ⟨x, e2, hk⟩ := sf_ok hk
    have e := one_ok e
    have e2 := asI_ok e2
    subst e e2
    exact ⟨rfl, rfl, _, rfl, ⟨x, rfl, rfl⟩, hk⟩
  · subst e e2
    rw [wo_loc]
    refine TB.of_run (X := 900) (n := 20) (by omega) (okQ prog w) hf (by omega) (by omega) (p := []) ?_
    rw [hcs]
    have h1 := Nat.le_of_ble_eq_true (List.all_eq_true.mp piece_len _ (piece_mem (fmod8 x)))
    have h2 := Nat.le_of_ble_eq_true (List.all_eq_true.mp piece_len _ (piece_mem (fmod8 (x.fdiv 8))))
    exact (Wr.of_eq wo_run ⟨fmod8 x, fmod8 _, Nat.le_trans (Nat.add_le_add h1 h2) (by rw [sizeLine_eq]; decide), .inl rfl⟩).out
/-! two lists, told unequal? -/
section
variable {prog : Program} {w : World} {K : Frag} {mg mb : Str → Option Value} {os₀ : Glo} {f : FD} {loc : Loc} {st : St}
theorem neT {ρ : Lab} {s : Shared} {A : Around} {E : Value → Shared → Prop} {Q : Value → Shared → Prop} (hR : R w os₀ f.h₀ f.L f.outs loc st ρ s) (hb : NoneBooked s.heap) (hu : A.units + 70 < cLine) {va vb : Value} {v : V} {vs : List V} (e : itemsV v = some vs) (hf : ∀ u ∈ vs, fineV 4 u) (h1 : VR ρ v va) (h2 : VR ρ v vb) (hq : Q (.bool false) s) : wpAny (model prog w) A (compareOp .NotEq va vb) Q E s := by
  obtain ⟨x, xs, n1, X⟩ := hR.frozen h1 e
  obtain ⟨y, ys, n2, Y⟩ := hR.frozen h2 e
  rw [X.e, Y.e]
  have l1 := X.vr.length
  refine RcNeAt.lists (e := fun _ => true) (isList_of X.at_) (isList_of Y.at_) (by rw [List.size_toArray, List.size_toArray, l1, Y.vr.length]) (Nat.lt_of_le_of_lt (by omega) hu) (fun j h1 h2 => ?_) prog w E Q (by rw [all_true]; exact hq)
  have hj : j < vs.length := l1 ▸ h1
  obtain ⟨x', hx', hvx'⟩ := X.vr.get (List.getElem?_eq_getElem hj)
  obtain ⟨y', hy', hvy'⟩ := Y.vr.get (List.getElem?_eq_getElem hj)
  rw [get_arr h1 hx', get_arr h2 hy']
  exact eqAt_same hR hb 4 A.in1 _ _ _ (Nat.lt_of_le_of_lt (show A.units + 1 + 4 ≤ A.units + 70 by omega) hu) (hf _ (List.getElem_mem hj)) hvx' hvy'
theorem TT.neT (hf : f.Ok K mg mb) (hu : f.A.units + 70 < cLine) {l x : Expr} {pos : Pos} {k : Bool → St → Prop} (hn : noSet x = true) {v : V} {vs : List V} (e : itemsV v = some vs) (hfn : ∀ u ∈ vs, fineV 4 u)
    (h : TE prog w os₀ f l loc st fun a st1 => a = v ∧ TE prog w os₀ f x loc st1 fun b st2 => b = v ∧ k false st2) : TT prog w os₀ f (.Compare l [.NotEq] [x] pos) loc st k := by
  intro ρ s Q Ex hR q
  refine wpAny_isTrue_Compare1 (h ρ s _ Ex hR fun a st₁ ρ₁ va s₁ ⟨e1, h₁⟩ le₁ hR₁ ha => h₁ ρ₁ s₁ _ Ex hR₁ fun b st₂ ρ₂ vb s₂ ⟨e2, h₂⟩ le₂ hR₂ hb => ?_) (noSet_marks hn)
  subst e1 e2
  exact Mine.neT hR₂ (booked_keeps hf.gd.booked hR₂.keep) hu e hfn (ha.mono le₂) hb (wpAny_truthy_bool (q _ _ _ _ h₂ (le₁.trans le₂) hR₂))
/-- the first sign of a text -/
theorem TE.sign0 {o i : Expr} {p : Pos} {k : V → St → Prop} (hp : plainIdx i = true)
    (h : TE prog w os₀ f o loc st fun ov st1 => TE prog w os₀ f i loc st1 fun iv st2 => ∃ x c, ov = .str x ∧ iv = .int 0 ∧ x.cps[0]? = some c ∧ k (.str ⟨#[c]⟩) st2) : TE prog w os₀ f (.Subscript o i p) loc st k := by
  intro ρ s Q Ex hR q
  refine Subscript_ (h ρ s _ Ex hR fun ov st₁ ρ₁ vo s₁ h₁ le₁ hR₁ ho => h₁ ρ₁ s₁ _ Ex hR₁ fun iv st₂ ρ₂ vi s₂ ⟨x, c, e1, e2, hc, hk⟩ le₂ hR₂ hi => ?_)
  subst e1 e2
  obtain ⟨t, e3⟩ := hi.inv
  obtain ⟨u, e4, -⟩ := ho.inv
  subst e3 e4
  have hl : 0 < x.length := (Array.getElem?_eq_some_iff.mp hc).1
  refine tail_any (typeIs_str _ _ _) F.slot_str_getitem.lookup (PySem.P.getItem_str (c := c) rfl ?_ ?_) (sub_plain hp)
  · have : seqIndex? 0 x.length = some 0 := by
      unfold seqIndex?
      simp [hl]
    rw [this]; exact hc
  · exact q _ _ ρ₂ _ _ hk (le₁.trans le₂) (hR₂.toks _ (Nat.le_succ _)) (.str _ _ (by show 1 ≤ sizeLine; rw [sizeLine_eq]; decide))
end
end Mine
end
section
open PySem PySem.W PyProof.Rows PySem.Calls PySem.SeqAt
set_option Elab.async false
set_option maxRecDepth 100000
set_option maxHeartbeats 4000000
namespace Mine
/-! the law: its statements -/
noncomputable abbrev lwB (P : Params) : List Stmt := bodyOf (fdAt (KK P) 820).body
noncomputable abbrev lwN (P : Params) := (fdAt (KK P) 820).scope.names
noncomputable abbrev wdE (P : Params) : Expr := sE 0 [] (sI 0 (lwB P))
noncomputable abbrev lwK (P : Params) (i : Nat) : Expr := getN dE i (kidB (sE 0 [] (sI 4 (lwB P))))
noncomputable abbrev scE1 (P : Params) : Expr := atE [0] (lwK P 1)
noncomputable abbrev ccE (P : Params) : Expr := sE 0 [0, 1, 1] (sI 6 (lwB P))
noncomputable def ΓL (P : Params) : Gam where
  glob := [("_law_word", .raw 800), ("join_shlex", .raw 785), ("_law_sent", .raw 805), ("_law_lines", .raw 815), ("split", .raw 778), ("ord", .bi "ord"), ("sum", .bi "sum")]
  fns := []
  plain := []
  meth := []
  prop := []
  bi := []
  ty := []
  sm := []
  cls := []
  spec := [(800, wordF), (785, joinSpec P), (805, sentF), (815, linesF)]
  specK := [(778, [], spSpec)]
  biS := [("sum", sumF)]
theorem ok_globL (P : Params) : globTab (KK P) (ΓL P).glob = true := by kernel_rfl!
theorem okL (prog : Program) (w : World) {X : Nat} (hX : X ≤ 590) : (ΓL w.params).Ok prog w (KK w.params) X where
  spec := fun a sp h => by
    rcases List.mem_cons.mp h with h | h
    · cases h
      exact word_ok (by omega)
    · rcases List.mem_cons.mp h with h | h
      · cases h
        exact join_spec (by omega)
      · rcases List.mem_cons.mp h with h | h
        · cases h
          exact sent_ok hX
        · cases List.mem_singleton.mp h
          exact lines_ok hX
  specK := fun a ys sp h => by
    cases List.mem_singleton.mp h
    exact sp_spec prog w hX
  glob := globTab_ok (ok_globL _)
  fns := fun _ h => by cases h
  plain := fun _ _ h => by cases h
  meth := fun _ _ h => by cases h
  prop := fun _ _ h => by cases h
  bi := fun _ _ h => by cases h
  ty := fun _ _ h => by cases h
  cls := fun _ _ _ h => by cases h
  sm := fun _ _ h => by cases h
  biS := fun n sp h => by
    cases List.mem_singleton.mp h
    exact sumF_ok
  tyS := fun n sp h => by cases h
theorem wd_c (P : Params) : CL "x" (lwN P) (wdE P) := ⟨⟨by kernel_rfl!, by kernel_rfl!, by kernel_rfl!, by kernel_rfl!⟩, by kernel_rfl!, by kernel_rfl!⟩
theorem wd_a (P : Params) : AL "words" (lwN P) (sI 0 (lwB P)) := ⟨by kernel_rfl!, by kernel_rfl!, by kernel_rfl!, by kernel_rfl!⟩
theorem sc_c (P : Params) : CL "one" (lwN P) (scE1 P) := ⟨⟨by kernel_rfl!, by kernel_rfl!, by kernel_rfl!, by kernel_rfl!⟩, by kernel_rfl!, by kernel_rfl!⟩
theorem cc_c (P : Params) : CL "copy" (lwN P) (ccE P) := ⟨⟨by kernel_rfl!, by kernel_rfl!, by kernel_rfl!, by kernel_rfl!⟩, by kernel_rfl!, by kernel_rfl!⟩
theorem lw_shape (P : Params) : lwB P = [sI 0 (lwB P), sI 1 (lwB P), sI 2 (lwB P), sI 3 (lwB P), sI 4 (lwB P), sI 5 (lwB P), sI 6 (lwB P)] := by kernel_rfl!
theorem lw4_shape (P : Params) : sI 4 (lwB P) = .If (.BoolOp .Or [lwK P 0, lwK P 1] (sE 0 [] (sI 4 (lwB P))).pos) (subS (sI 4 (lwB P))) [] (sI 4 (lwB P)).pos := by kernel_rfl!
theorem lwk0_shape (P : Params) : lwK P 0 = .Compare (atE [0] (lwK P 0)) [.NotEq] [atE [1] (lwK P 0)] (lwK P 0).pos := by kernel_rfl!
theorem lwk1_shape (P : Params) : lwK P 1 = .Compare (scE1 P) [.NotEq] [atE [1] (lwK P 1)] (lwK P 1).pos := by kernel_rfl!
theorem lwk_set (P : Params) : noSet (atE [1] (lwK P 0)) = true ∧ noSet (atE [1] (lwK P 1)) = true := ⟨by kernel_rfl!, by kernel_rfl!⟩
theorem lw5_shape (P : Params) : sI 5 (lwB P) = .Assign [.Name "wrong" (sE 1 [] (sI 5 (lwB P))).pos] (.BinOp (.BinOp (.BinOp (.Call (sE 0 [0, 0, 0, 0] (sI 5 (lwB P))) [.Subscript (.Name "line" (sE 0 [0, 0, 0, 1, 0] (sI 5 (lwB P))).pos) (.Constant (.int 0) (kC (sE 0 [0, 0, 0, 1, 1] (sI 5 (lwB P)))) (sE 0 [0, 0, 0, 1, 1] (sI 5 (lwB P))).pos) (sE 0 [0, 0, 0, 1] (sI 5 (lwB P))).pos] [] (sE 0 [0, 0, 0] (sI 5 (lwB P))).pos) .Add (.Constant (.int 1) (kC (sE 0 [0, 0, 1] (sI 5 (lwB P)))) (sE 0 [0, 0, 1] (sI 5 (lwB P))).pos) (sE 0 [0, 0] (sI 5 (lwB P))).pos) .Add (sE 0 [0, 1] (sI 5 (lwB P))) (sE 0 [0] (sI 5 (lwB P))).pos) .Mod (.Constant (.int 300) (kC (sE 0 [1] (sI 5 (lwB P)))) (sE 0 [1] (sI 5 (lwB P))).pos) (sE 0 [] (sI 5 (lwB P))).pos) (sI 5 (lwB P)).pos := by kernel_rfl!
theorem lw5_ord (P : Params) : isName (sE 0 [0, 0, 0, 0] (sI 5 (lwB P))) = true := by kernel_rfl!
theorem lw_kinds (P : Params) : getA "line" (lwN P) = some .local ∧ getA "wrong" (lwN P) = some .local := ⟨by kernel_rfl!, by kernel_rfl!⟩
noncomputable def faultL : List Int := [1, 47, 1203, 88, 912]
noncomputable abbrev fsOf (ns : List Int) : List Int := cutL (some 2) (some 10) ns ++ faultL
noncomputable abbrev l1 (ns : List Int) (ws : List Str) : Loc := [("script", .tri ns), ("words", .trs ws)]
noncomputable abbrev l2 (ns : List Int) (ws : List Str) (line : V) : Loc := [("script", .tri ns), ("words", .trs ws), ("line", line)]
noncomputable abbrev l3 (ns : List Int) (ws : List Str) (line copies : V) : Loc := [("script", .tri ns), ("words", .trs ws), ("line", line), ("copies", copies)]
noncomputable abbrev l4 (ns : List Int) (ws : List Str) (line copies lines : V) : Loc := [("script", .tri ns), ("words", .trs ws), ("line", line), ("copies", copies), ("lines", lines)]
noncomputable abbrev l5 (ns : List Int) (ws : List Str) (line copies lines wrong : V) : Loc := [("script", .tri ns), ("words", .trs ws), ("line", line), ("copies", copies), ("lines", lines), ("wrong", wrong)]
section
variable {P : Params} {ns : List Int} {ws : List Str} {line x : Str} {n : Int} {cv lv wv : V} {st : St} {ke : Path → V → St → Prop} {k : Path → Fl → Loc → St → Prop}
theorem wd_it : (run (ΓL P) 30).E (lwN P) [] [("script", .tri ns)] st (cIter (wdE P)) ke = ((cutL none (some 2) ns).length + [(17 : Int), 10].length ≤ sizeLine ∧ ke [] (.tri (cutL none (some 2) ns ++ [17, 10])) st) := by kernel_rfl!
theorem wd_fl : putA "x" wv (freeLoc [("script", .tri ns)] (freeNames (cSc (wdE P)).names)) = ([("x", wv)] : Loc) := by kernel_rfl!
theorem wd_el : (run (ΓL P) 30).E (relNames (lwN P) (cSc (wdE P)).names) [] [("x", .int n)] st (cElt (wdE P)) ke = ke [] (.str (wordOf n)) st := by kernel_rfl!
theorem lw_1 : (run (ΓL P) 30).S (lwN P) [] (l1 ns ws) st (sI 1 (lwB P)) k = joinSpec P [.trs ws] st (fun v st => k [] .next (l2 ns ws v) st) := by kernel_rfl!
theorem lw_2 : (run (ΓL P) 30).S (lwN P) [] (l2 ns ws (.str line)) st (sI 2 (lwB P)) k = ((cutL (some 2) (some 10) ns).length + faultL.length ≤ sizeLine ∧ ((0 < line.length ∧ (fsOf ns).length ≤ 1000) ∧ k [] .next (l3 ns ws (.str line) (.tr ((sentOf line (fsOf ns)).copies.map .tri))) st)) := by kernel_rfl!
theorem lw_3 : (run (ΓL P) 30).S (lwN P) [] (l3 ns ws (.str line) cv) st (sI 3 (lwB P)) k = linesF [cv] st (fun v st => k [] .next (l4 ns ws (.str line) cv v) st) := by kernel_rfl!
theorem lwk0_l : (run (ΓL P) 30).E (lwN P) [] (l4 ns ws (.str line) cv lv) st (atE [0] (lwK P 0)) ke = ke [] lv st := by kernel_rfl!
theorem lwk0_r : (run (ΓL P) 30).E (lwN P) [] (l4 ns ws (.str line) cv lv) st (atE [1] (lwK P 0)) ke = ke [] (.trs [line, line, line]) st := by kernel_rfl!
theorem lwk1_r : (run (ΓL P) 30).E (lwN P) [] (l4 ns ws (.str line) cv lv) st (atE [1] (lwK P 1)) ke = ke [] (.tr [.trs ws, .trs ws, .trs ws]) st := by kernel_rfl!
theorem sc_it : (run (ΓL P) 30).E (lwN P) [] (l4 ns ws (.str line) cv lv) st (cIter (scE1 P)) ke = ke [] lv st := by kernel_rfl!
theorem sc_fl : putA "one" wv (freeLoc (l4 ns ws (.str line) cv lv) (freeNames (cSc (scE1 P)).names)) = ([("one", wv)] : Loc) := by kernel_rfl!
theorem sc_el : (run (ΓL P) 30).E (relNames (lwN P) (cSc (scE1 P)).names) [] [("one", wv)] st (cElt (scE1 P)) ke = spSpec [wv] [] st (fun v st => ke [] v st) := by kernel_rfl!
theorem lw5_name : (run (ΓL P) 30).E (lwN P) [] (l4 ns ws (.str line) cv lv) st (sE 0 [0, 0, 0, 0] (sI 5 (lwB P))) ke = ke [] (.bi "ord") st := by kernel_rfl!
theorem lw5_sum : (run (ΓL P) 30).E (lwN P) [] (l4 ns ws (.str line) cv lv) st (sE 0 [0, 1] (sI 5 (lwB P))) ke = ke [] (.int (cutL (some 2) (some 10) ns).sum) st := by kernel_rfl!
end
end Mine
end
section
open PySem PySem.W PyProof.Rows PySem.Calls PySem.SeqAt
set_option Elab.async false
set_option maxRecDepth 100000
set_option maxHeartbeats 4000000
namespace Mine
/-! the law's last line -/
noncomputable abbrev l6 (ns : List Int) (ws : List Str) (line : Str) (rows : List (List Int)) (lv : V) (wv : Int) : Loc := l5 ns ws (.str line) (.tr (rows.map .tri)) lv (.int wv)
noncomputable def cut1 : V → V
  | .tri r => .tri (cutL none (some 1) r)
  | _ => .none
noncomputable abbrev cutR (rows : List (List Int)) : List V := (cutL (some 3) none (rows.map V.tri)).map cut1
noncomputable abbrev cmE (P : Params) (L : Loc) (rows : List (List Int)) : CmpE := ⟨(ccE P).pos.line, (ccE P).pos.col, lwN P, ccE P, fun lo st k => lo = L ∧ k (.tr (cutR rows)) st⟩
section
variable {P : Params} {ns : List Int} {ws : List Str} {line : Str} {wv : Int} {r : List Int} {vs : List V} {lv v : V} {st : St} {ke : Path → V → St → Prop}
theorem cc_it : (run (ΓQ P) 20).E (lwN P) [] (l5 ns ws (.str line) (.tr vs) lv (.int wv)) st (cIter (ccE P)) ke = ke [] (.tr (cutL (some 3) none vs)) st := by kernel_rfl!
theorem cc_fl : putA "copy" v (freeLoc (l5 ns ws (.str line) (.tr vs) lv (.int wv)) (freeNames (cSc (ccE P)).names)) = ([("copy", v)] : Loc) := by kernel_rfl!
theorem cc_el : (run (ΓQ P) 20).E (relNames (lwN P) (cSc (ccE P)).names) [] [("copy", .tri r)] st (cElt (ccE P)) ke = ke [] (.tri (cutL none (some 1) r)) st := by kernel_rfl!
end
theorem cutR_eq (rows : List (List Int)) : cutR rows = ((rows.drop 3).map fun r => cutL none (some 1) r).map .tri := by
  show ((rows.map V.tri).drop 3).map cut1 = _
  rw [← List.map_drop, List.map_map, List.map_map]
  rfl
theorem cc_ok {prog : Program} {w : World} {X : Nat} (hX : X ≤ 800) {ns : List Int} {ws : List Str} {line : Str} {rows : List (List Int)} {lv : V} {wv : Int} : CmpOk prog w (KK w.params) X (cmE w.params (l6 ns ws line rows lv wv) rows) := by
  intro mg mb os₀ f hf hks hd hu loc st k ⟨e, hk⟩
  have hks : f.cs.names = lwN w.params := hks
  subst e
  have C := cc_c w.params
  intro ρ s Q E hR q
  show wpAny _ _ (eval (ccE w.params) f.env) _ _ _
  rw [C.he]
  refine CT.te (CT.map (k := k) hf (by rw [hks]; exact C.hg) C.hc C.hx C.hk C.hs (items := cutL (some 3) none (rows.map V.tri)) (g := cut1) ?_ (fun f' hf' hn' hA u hu' => ?_) (.frz (v := .tr (cutR rows)) rfl ?_ hk)) ρ s Q E hR q
  · refine TE.of_run (X := 900) (n := 20) (by omega) (okQ prog w) hf (by omega) (by omega) (p := []) ?_
    rw [hks]
    exact (Wr.of_eq cc_it ⟨rfl, rfl⟩).out
  · obtain ⟨r, hr, e⟩ := List.mem_map.mp (cut_mem hu')
    subst e
    rw [cc_fl]
    refine TE.of_run (X := 900) (n := 20) (by omega) (okQ prog w) hf' (by rw [hA]; omega) (by rw [hA]; omega) (p := []) ?_
    rw [hn', hks]
    exact (Wr.of_eq cc_el ⟨rfl, rfl⟩).out
  · show (cutR rows).all closedV = true
    rw [cutR_eq]
    exact List.all_eq_true.mpr fun x hx => by
      obtain ⟨r, -, e⟩ := List.mem_map.mp hx
      exact e ▸ rfl
noncomputable def ΓZ (P : Params) (L : Loc) (rows : List (List Int)) : Gam where
  glob := [("_law_voted", .raw 810)]
  fns := []
  plain := []
  meth := []
  prop := []
  bi := []
  ty := []
  sm := []
  cls := []
  spec := [(810, votedF)]
  cmp := [cmE P L rows]
theorem ok_globZ (P : Params) (L : Loc) (rows : List (List Int)) : globTab (KK P) (ΓZ P L rows).glob = true := by kernel_rfl!
theorem okZ (prog : Program) (w : World) {X : Nat} (hX : X ≤ 690) {ns : List Int} {ws : List Str} {line : Str} {rows : List (List Int)} {lv : V} {wv : Int} : (ΓZ w.params (l6 ns ws line rows lv wv) rows).Ok prog w (KK w.params) X where
  spec := fun a sp h => by
    cases List.mem_singleton.mp h
    exact voted_ok hX
  cmp := fun x h => by
    cases List.mem_singleton.mp h
    exact cc_ok (by omega)
  glob := globTab_ok (ok_globZ _ _ _)
  fns := fun _ h => by cases h
  plain := fun _ _ h => by cases h
  meth := fun _ _ h => by cases h
  prop := fun _ _ h => by cases h
  bi := fun _ _ h => by cases h
  ty := fun _ _ h => by cases h
  cls := fun _ _ _ h => by cases h
  sm := fun _ _ h => by cases h
  tyS := fun n sp h => by cases h
section
variable {P : Params} {ns : List Int} {ws : List Str} {line : Str} {wv : Int} {rows : List (List Int)} {lv : V} {st : St} {k : Path → Fl → Loc → St → Prop}
theorem lw_6 : (run (ΓZ P (l6 ns ws line rows lv wv) rows) 30).S (lwN P) [] (l6 ns ws line rows lv wv) st (sI 6 (lwB P)) k =
    ((Expr.ListComp (cElt (ccE P)) [⟨.Name "copy" (atE [1] (ccE P)).pos, cIter (ccE P), [], 0⟩] (cSc (ccE P)) (ccE P).pos = ccE P ∧ lwN P = lwN P) ∧ (l6 ns ws line rows lv wv = l6 ns ws line rows lv wv ∧ ([V.tri [wv], .tri [wv], .tri [wv]].length + (cutR rows).length ≤ sizeLine ∧
      votedF [.tr ([.tri [wv], .tri [wv], .tri [wv]] ++ cutR rows), .int 0] st (fun v st => stCmp st .Eq v (.tri [wv, wv, wv]) (fun c => k [] (.ret (.bool c)) (l6 ns ws line rows lv wv) st))))) := by kernel_rfl!
end
theorem count_front {w : Int} (r : List Int) : 3 ≤ ([w, w, w] ++ r).count w := by
  rw [List.count_append]
  have : [w, w, w].count w = 3 := by simp
  omega
theorem last_vote {rows : List (List Int)} (h5 : rows.length = 5) (hr : ∀ r ∈ rows, 0 < r.length) (w : Int) : Vote ([[w], [w], [w]] ++ (rows.drop 3).map fun r => cutL none (some 1) r) 0 w := by
  refine ⟨Int.le_refl 0, fun r h => ?_, ?_, ?_⟩
  · have : 0 < r.length := by
      rcases List.mem_append.mp h with h | h
      · have e : r = [w] := by simpa using h
        rw [e]; exact Nat.one_pos
      · obtain ⟨r', hm, e⟩ := List.mem_map.mp h
        have := hr r' (List.mem_of_mem_drop hm)
        rw [← e]
        show 0 < (List.take 1 r').length
        rw [List.length_take]
        omega
    exact Int.ofNat_lt.mpr this
  · rw [List.length_append, List.length_map, List.length_drop, h5]
    rfl
  · rw [List.map_append]
    exact count_front _
end Mine
end
section
open PySem PySem.W PyProof.Rows PySem.Calls PySem.SeqAt
set_option Elab.async false
set_option maxRecDepth 100000
set_option maxHeartbeats 4000000
namespace Mine
/-! the law's body -/
noncomputable def wsOf (ns : List Int) : List Str := (cutL none (some 2) ns ++ [17, 10]).map wordOf
noncomputable def lineOf (ns : List Int) : Str := Txt.join " " ((wsOf ns).map quoteW)
theorem ws_in (ns : List Int) : ∀ x ∈ wsOf ns, x ∈ words64 := fun x hx => by
  obtain ⟨n, -, e⟩ := List.mem_map.mp hx
  exact e ▸ word_in n
theorem cut2 (ns : List Int) : (cutL none (some 2) ns).length ≤ 2 := by
  show (List.drop 0 (List.take 2 ns)).length ≤ 2
  rw [List.drop_zero, List.length_take]
  exact Nat.min_le_left ..
theorem ws_len (ns : List Int) : (wsOf ns).length ≤ 4 ∧ 2 ≤ (wsOf ns).length := by
  have := cut2 ns
  unfold wsOf
  rw [List.length_map, List.length_append]
  exact ⟨Nat.add_le_add_right this 2, Nat.le_add_left ..⟩
theorem quoteW_small : words64.all (fun x => (quoteW x).cps.toList.all fun c => Nat.ble c 1000) = true := by kernel_rfl!
theorem line_small {ws : List Str} : (∀ x ∈ ws, x ∈ words64) → ∀ c ∈ (Txt.join " " (ws.map quoteW)).cps.toList, c ≤ 1114111 := by
  induction ws with
  | nil => exact fun _ _ h => nomatch h
  | cons x r ih =>
    intro h c hc
    have hx : ∀ c ∈ (quoteW x).cps.toList, c ≤ 1114111 := fun c hc => Nat.le_trans (Nat.le_of_ble_eq_true (List.all_eq_true.mp (List.all_eq_true.mp quoteW_small x (h x (.head _))) c hc)) (by decide)
    cases r with
    | nil =>
      have e : (Txt.join " " ([x].map quoteW)) = quoteW x := by unfold Txt.join; rw [StrLaws.glued_eq_join]; rfl
      rw [e] at hc; exact hx c hc
    | cons y r =>
      rw [List.map_cons, List.map_cons, join_cps] at hc
      rcases List.mem_append.mp hc with hm | hm
      · exact hx c hm
      · rcases List.mem_cons.mp hm with e | hm
        · rw [e]; decide
        · exact ih (fun z hz => h z (.tail _ hz)) c hm
theorem line_fit (ns : List Int) : (lineOf ns).length ≤ 1000 ∧ 0 < (lineOf ns).length := by
  refine ⟨?_, ?_⟩
  · have h1 := StrLaws.join_length_le " " ((wsOf ns).map quoteW)
    have h2 := words_sum (ws_in ns)
    have h3 := (ws_len ns).1
    have h4 : (Str.ofString " ").length = 1 := rfl
    rw [← StrLaws.glued_eq_join, List.length_map, h4] at h1
    have : (lineOf ns).length ≤ _ := h1
    omega
  · have h := (ws_len ns).2
    unfold lineOf
    generalize wsOf ns = ws at h
    match ws, h with
    | x :: y :: r, _ =>
      have e := join_cps (quoteW x) (quoteW y) (r.map quoteW)
      have e2 : (Txt.join " " (quoteW x :: quoteW y :: r.map quoteW)).cps.toList.length = (Txt.join " " (quoteW x :: quoteW y :: r.map quoteW)).length := Array.length_toList
      rw [e, List.length_append, List.length_cons] at e2
      show 0 < (Txt.join " " (quoteW x :: quoteW y :: r.map quoteW)).length
      omega
theorem lines_of {line : Str} (h0 : 0 < line.length) (hz : line.length ≤ 1000) (hc : ∀ c ∈ line.cps.toList, c ≤ 1114111) (fs : List Int) : LinesH (sentOf line fs).copies line := by
  have I := inv_of h0 fs
  refine ⟨I.l1, fun r hr => ?_, fun j hj => sent_count I (getN_at (by rw [codes_len]; exact hj)), hz, hc⟩
  obtain ⟨i, hi⟩ := List.getElem?_of_mem hr
  exact (I.l2 i r hi).trans (codes_len line)
noncomputable abbrev rowsOf (ns : List Int) : List (List Int) := (sentOf (lineOf ns) (fsOf ns)).copies
theorem fs_len {ns : List Int} (h : ns.length ≤ 63) : (fsOf ns).length ≤ 1000 ∧ (cutL (some 2) (some 10) ns).length + faultL.length ≤ sizeLine := by
  have h2 := cut_len (some 2) (some 10) ns
  have h3 : faultL.length = 5 := rfl
  refine ⟨by rw [List.length_append, h3]; omega, by rw [h3, sizeLine_eq]; omega⟩
section
variable {prog : Program} {w : World} {mg mb : Str → Option Value} {os₀ : Glo} {f : FD}
theorem tsl (hf : f.Ok (KK w.params) mg mb) (hn : f.cs.names = lwN w.params) (hd : f.A.depth < 400) (hu : f.A.units < 4000) {x : Stmt} {loc : Loc} {st : St} {k : Fl → Loc → St → Prop} (h : Wr ((run (ΓL w.params) 30).S (lwN w.params) [] loc st x (fun _ => k))) : TS prog w os₀ f x loc st k :=
  TS.of_run (X := 590) (n := 30) (by omega) (okL prog w (Nat.le_refl _)) hf (by omega) (by omega) (p := []) (by rw [hn]; exact h.out)
theorem tel (hf : f.Ok (KK w.params) mg mb) (hn : f.cs.names = lwN w.params) (hd : f.A.depth < 400) (hu : f.A.units < 4000) {x : Expr} {loc : Loc} {st : St} {k : V → St → Prop} (h : Wr ((run (ΓL w.params) 30).E (lwN w.params) [] loc st x (fun _ => k))) : TE prog w os₀ f x loc st k :=
  TE.of_run (X := 590) (n := 30) (by omega) (okL prog w (Nat.le_refl _)) hf (by omega) (by omega) (p := []) (by rw [hn]; exact h.out)
/-- the test: nothing differs -/
theorem lw_test (hf : f.Ok (KK w.params) mg mb) (hn : f.cs.names = lwN w.params) (hd : f.A.depth < 400) (hu : f.A.units < 4000) {ns : List Int} {ws : List Str} {line : Str} {cv : V} {st : St} (hsp : SplitOut false (.str line) ws) {k : Bool → St → Prop} (h : k false st) :
    TT prog w os₀ f (.BoolOp .Or [lwK w.params 0, lwK w.params 1] (sE 0 [] (sI 4 (lwB w.params))).pos) (l4 ns ws (.str line) cv (.trs [line, line, line])) st k := by
  have hul : f.A.units + 70 < cLine := by unfold cLine; omega
  have C := sc_c w.params
  have eC := C.he
  refine TT.or2 ?_
  rw [lwk0_shape]
  refine TT.neT hf hul (lwk_set _).1 (v := .trs [line, line, line]) rfl (fun u hu => ?_) (tel hf hn hd hu (Wr.of_eq lwk0_l ⟨rfl, tel hf hn hd hu (Wr.of_eq lwk0_r ⟨rfl, ?_⟩)⟩))
  · obtain ⟨x, -, e⟩ := List.mem_map.mp hu
    exact e ▸ trivial
  · show TT prog w os₀ f (lwK w.params 1) _ _ k
    rw [lwk1_shape]
    refine TT.neT hf hul (lwk_set _).2 (v := .tr [.trs ws, .trs ws, .trs ws]) rfl (fun u hu => ?_) ?_
    · have : u = .trs ws := by simpa using hu
      exact this ▸ trivial
    · rw [eC]
      refine CT.te (CT.map hf (by rw [hn]; exact C.hg) C.hc C.hx C.hk C.hs (items := [V.str line, .str line, .str line]) (g := fun _ => .trs ws) ?_ (fun f' hf' hn' hA u hu' => ?_) (.frz (v := .tr [.trs ws, .trs ws, .trs ws]) rfl rfl ⟨rfl, ?_⟩))
      · exact tel hf hn hd hu (Wr.of_eq sc_it ⟨rfl, rfl⟩)
      · have : u = .str line := by simpa using hu'
        subst this
        rw [sc_fl]
        refine TE.of_run (X := 590) (n := 30) (by omega) (okL prog w (Nat.le_refl _)) hf' (by rw [hA]; omega) (by rw [hA]; omega) (p := []) ?_
        rw [hn', hn]
        exact (Wr.of_eq sc_el ⟨_, ws, rfl, rfl, hsp, rfl, rfl⟩).out
      · exact tel hf hn hd hu (Wr.of_eq lwk1_r ⟨rfl, h⟩)
noncomputable abbrev wrongOf (ns : List Int) (c : Nat) : Int := ((c : Int) + 1 + (cutL (some 2) (some 10) ns).sum).fmod 300
/-- the wrong code -/
theorem lw_wrong (hf : f.Ok (KK w.params) mg mb) (hn : f.cs.names = lwN w.params) (hd : f.A.depth < 400) (hu : f.A.units < 4000) {ns : List Int} {ws : List Str} {line : Str} {cv lv : V} {st : St} {c : Nat} (hc : line.cps[0]? = some c) {k : Fl → Loc → St → Prop} (h : k .next (l5 ns ws (.str line) cv lv (.int (wrongOf ns c))) st) :
    TS prog w os₀ f (sI 5 (lwB w.params)) (l4 ns ws (.str line) cv lv) st k := by
  have K := lw_kinds w.params
  rw [lw5_shape]
  refine TS.asg hf rfl (by rw [hn]; exact K.2) (TE.bin (TE.bin (TE.bin (TE.bi1 (X := 900) (sp := ordF) hf (lw5_ord _) ord_spec (by omega) (by omega) rfl (tel hf hn hd hu (Wr.of_eq lw5_name ⟨rfl, ?_⟩))))))
  refine TE.sign0 rfl (TE.var hf (by rw [hn]; exact K.1) rfl rfl (TE.int ⟨line, c, rfl, rfl, hc, rfl, TE.int ⟨fun v st' => v = .int ((c : Int) + 1) ∧ st' = st, ⟨rfl, rfl⟩, fun v st' ⟨e1, e2⟩ => ?_⟩⟩))
  subst e1 e2
  refine tel hf hn hd hu (Wr.of_eq lw5_sum ⟨fun v st'' => v = .int ((c : Int) + 1 + (cutL (some 2) (some 10) ns).sum) ∧ st'' = st', ⟨rfl, rfl⟩, fun v st'' ⟨e1, e2⟩ => ?_⟩)
  subst e1 e2
  exact TE.int ⟨fun v st' => v = .int (wrongOf ns c) ∧ st' = st'', ⟨rfl, rfl⟩, fun v st' ⟨e1, e2⟩ => by subst e1 e2; exact h⟩
theorem lw_body (hf : f.Ok (KK w.params) mg mb) (hcs : f.cs = (fdAt (KK w.params) 820).scope) (hd : f.A.depth < 400) (hu : f.A.units < 4000) {ns : List Int} (hz : ns.length ≤ 63) :
    TB prog w os₀ f (lwB w.params) [("script", .tri ns)] ⟨[], 0⟩ (fun fl _ st' => fl = .ret (.bool true) ∧ st' = ⟨[], 0⟩) := by
  have hn : f.cs.names = lwN w.params := by rw [hcs]
  have C := wd_c w.params
  have eC := C.he
  have hl := line_fit ns
  have hH := lines_of hl.2 hl.1 (line_small (ws_in ns)) (fsOf ns)
  have hsp : SplitOut false (.str (lineOf ns)) (wsOf ns) := words_split (P := w.params) (fun e => by have := (ws_len ns).2; rw [e] at this; exact absurd this (by decide)) (ws_in ns) (ws_len ns).1
  obtain ⟨c, hc⟩ : ∃ c, (lineOf ns).cps[0]? = some c := ⟨_, Array.getElem?_eq_getElem hl.2⟩
  rw [lw_shape]
  refine TB.cons (asg_of hf (by rw [hn]; exact wd_a _) (by rw [hn]; exact C.toC0) ?_)
  show CT prog w os₀ f (wdE w.params) _ _ _
  rw [eC]
  refine CT.map hf (by rw [hn]; exact C.hg) C.hc C.hx C.hk C.hs (items := (cutL none (some 2) ns ++ [17, 10]).map .int) (g := fun v => match asI v with | some n => .str (wordOf n) | none => .none) ?_ (fun f' hf' hn' hA u hu' => ?_) (.frz (v := .trs (wsOf ns)) ?_ ?_ ?_)
  · refine tel hf hn hd hu (Wr.of_eq wd_it ⟨?_, rfl, rfl⟩)
    have := cut2 ns
    rw [sizeLine_eq]
    exact Nat.le_trans (Nat.add_le_add_right this 2) (by decide)
  · obtain ⟨n, hm, e⟩ := List.mem_map.mp hu'
    subst e
    rw [wd_fl]
    refine TE.of_run (X := 590) (n := 30) (by omega) (okL prog w (Nat.le_refl _)) hf' (by rw [hA]; omega) (by rw [hA]; omega) (p := []) ?_
    rw [hn', hn]
    exact (Wr.of_eq wd_el ⟨rfl, rfl⟩).out
  · unfold wsOf
    rw [List.map_map]
    show some (((cutL none (some 2) ns ++ [17, 10]).map wordOf).map V.str) = _
    rw [List.map_map]; rfl
  · rw [List.map_map]
    exact List.all_eq_true.mpr fun x hx => by
      obtain ⟨n, -, e⟩ := List.mem_map.mp hx
      exact e ▸ rfl
  · show TB prog w os₀ f [sI 1 (lwB w.params), sI 2 (lwB w.params), sI 3 (lwB w.params), sI 4 (lwB w.params), sI 5 (lwB w.params), sI 6 (lwB w.params)] (l1 ns (wsOf ns)) _ _
    refine TB.cons (tsl hf hn hd hu (Wr.of_eq lw_1 ⟨_, _, rfl, join_as (ws_in ns) (ws_len ns).1, ?_⟩))
    refine TB.cons (tsl hf hn hd hu (Wr.of_eq (lw_2 (line := lineOf ns)) ⟨(fs_len hz).2, ⟨hl.2, (fs_len hz).1⟩, ?_⟩))
    refine TB.cons (tsl hf hn hd hu (Wr.of_eq lw_3 ⟨_, _, rfl, hH, ?_⟩))
    refine TB.cons ?_
    rw [lw4_shape]
    refine TS.ite (lw_test hf hn hd hu hsp (TB.nil ?_))
    refine TB.cons (lw_wrong hf hn hd hu hc ?_)
    refine TB.cons (TS.of_run (X := 690) (n := 30) (by omega) (okZ prog w (Nat.le_refl _) (ns := ns) (ws := wsOf ns) (line := lineOf ns) (rows := rowsOf ns) (lv := .trs [lineOf ns, lineOf ns, lineOf ns]) (wv := wrongOf ns c)) hf (by omega) (by omega) (p := []) ?_)
    rw [hn]
    have hv := last_vote (rows := rowsOf ns) hH.five (fun r hr => by rw [hH.len r hr]; exact hl.2) (wrongOf ns c)
    refine (Wr.of_eq lw_6 ⟨⟨(cc_c w.params).he.symm, rfl⟩, rfl, ?_, _, 0, _, ?_, hv, ?_⟩).out
    · rw [cutR_eq, List.length_map, List.length_map, List.length_drop, hH.five, sizeLine_eq]
      show 3 + (5 - 3) ≤ 16777216
      decide
    · rw [cutR_eq, List.map_append]
      rfl
    · show Fl.ret (.bool (decide ([wrongOf ns c, wrongOf ns c, wrongOf ns c] = [wrongOf ns c, wrongOf ns c, wrongOf ns c]))) = Fl.ret (.bool true) ∧ (⟨[], 0⟩ : St) = ⟨[], 0⟩
      rw [decide_eq_true rfl]
      exact ⟨rfl, rfl⟩
end
end Mine
end
section
open PySem PySem.W PyProof.Rows PySem.Calls
set_option Elab.async false
set_option maxRecDepth 100000
set_option maxHeartbeats 4000000
namespace Mine
/-! the law's call over the ground -/
noncomputable def noHid (K : Frag) : Bool := K.all fun p => (!(Nat.beq p.1 780)) && (match p.2.data with | .seq _ _ => (match p.2.cls with | .type c => !(decide (c = "list")) | _ => true) | _ => true)
theorem no_hid (P : Params) : noHid (KK P) = true := by kernel_rfl!
theorem lookup_mem {α : Type} {x : Nat} {v : α} : ∀ {l : List (Nat × α)}, l.lookup x = some v → (x, v) ∈ l
  | (y, u) :: l, h => by
    rw [List.lookup_cons] at h
    cases e : x == y with
    | true => rw [e] at h; cases h; rw [eq_of_beq e]; exact .head _
    | false => rw [e] at h; exact .tail _ (lookup_mem h)
theorem noHid_ok {K : Frag} (e : noHid K = true) {a : Addr} {o : Obj} (h : K.lookup a = some o) : a ≠ 780 ∧ ∀ vs n, o.data = .seq vs n → o.cls ≠ .type "list" := by
  have := List.all_eq_true.mp e _ (lookup_mem h)
  simp only [Bool.and_eq_true, Bool.not_eq_true'] at this
  refine ⟨fun q => ?_, fun vs n q c => ?_⟩
  · rw [q] at this; cases this.1
  · have h2 := this.2
    simp only [q, c] at h2
    cases h2
theorem lw_names (P : Params) : (lwN P).all (fun p => match p.2 with | .cell => false | .free => false | _ => true) = true := by kernel_rfl!
theorem lw_kind (P : Params) : (fdAt (KK P) 820).scope.kind = .function := by kernel_rfl!
section
variable {w : World} {mg mb : Str → Option Value} {h : Heap} {l : Addr} {xs : List Value} {n : Nat}
theorem hid_get (hl : h.get? l = some (listOf xs.toArray n)) (ht : h.get? 780 = some (tbO #[])) {a : Addr} {o : Obj} (e : h.get? a = some o) (h1 : ∀ vs n, o.data = .seq vs n → o.cls ≠ .type "list") (h2 : ∀ ps, o.data = .fields ps → a ≠ 780) : (hideAll h [l, 780]).get? a = some o := by
  refine hideAll_get _ e fun hm => ?_
  simp only [List.mem_cons, List.not_mem_nil, or_false] at hm
  rcases hm with rfl | rfl
  · rw [hl] at e; cases e; exact h1 _ _ rfl rfl
  · rw [ht] at e; cases e; exact h2 _ rfl rfl
theorem hid_ns (hl : h.get? l = some (listOf xs.toArray n)) (ht : h.get? 780 = some (tbO #[])) {a : Addr} {m : Str → Option Value} (N : h.Ns a m) : (hideAll h [l, 780]).Ns a m := by
  obtain ⟨o, es, ep, e, d, r⟩ := N
  exact ⟨o, es, ep, hid_get hl ht e (fun _ _ q => by rw [d] at q; cases q) (fun _ q => by rw [d] at q; cases q), d, r⟩
theorem hid_gd (hl : h.get? l = some (listOf xs.toArray n)) (ht : h.get? 780 = some (tbO #[])) (G : Gd (KK w.params) mg mb h) : Gd (KK w.params) mg mb (hideAll h [l, 780]) where
  inK := fun a o e => by
    obtain ⟨q1, q2⟩ := noHid_ok (no_hid w.params) e
    exact hid_get hl ht (G.inK a o e) q2 (fun _ _ => q1)
  g := hid_ns hl ht G.g
  b := hid_ns hl ht G.b
  nolimit := let ⟨mc, N, e⟩ := G.nolimit; ⟨mc, hid_ns hl ht N, e⟩
  builtins := G.builtins
  booked := let ⟨mc, N, e⟩ := G.booked; ⟨mc, hid_ns hl ht N, e⟩
  bmod := let ⟨bm, ob, M⟩ := G.bmod; ⟨bm, ob, hid_ns hl ht M.ns, M.name, M.ne, hid_get hl ht M.obj (fun _ _ q => by rw [M.data] at q; cases q) (fun _ q => by rw [M.data] at q; cases q), M.cls, M.dict, M.data⟩
theorem law_walk {prog : Program} {s : Shared} {m : Str → Option Value} {ns : List Int} {nm : Str} {fa : Addr} {cd : Value} {Q : Flow → Shared → Prop} {Ex : Value → Shared → Prop}
    (G : Gd (KK w.params) mg mb h) (hl : h.get? l = some (listOf xs.toArray n)) (ht : h.get? 780 = some (tbO #[])) (hI : IntsAre xs ns) (hz : ns.length ≤ 63)
    (F : Fr h h.objs.size s.heap m) (hm : m "script" = some (.ref l)) (hg : AllBare s.gens) (htk : 0 < s.toks)
    (q : ∀ s', s'.os = s.os → AllBare s'.gens → (∀ b o, b ≠ 780 → h.get? b = some o → s'.heap.get? b = some o) → (∃ ps, s'.heap.get? 780 = some (tbO ps)) → Q (.ret (.bool true)) s') :
    wpAny (model prog w) (callerA.deeper (envOf nm (fdAt (KK w.params) 820).scope h.objs.size fa cd)) (execs (lwB w.params) (envOf nm (fdAt (KK w.params) 820).scope h.objs.size fa cd)) Q Ex s := by
  have hl780 : l ≠ 780 := fun e => by
    rw [e, ht] at hl; cases hl
  let f : FD := { A := callerA.deeper (envOf nm (fdAt (KK w.params) 820).scope h.objs.size fa cd), h₀ := hideAll h [l, 780], L := h.objs.size, cs := (fdAt (KK w.params) 820).scope, qual := nm ++ ".<locals>.", func := some fa, code := cd, frame := some h.objs.size, outs := ⟨[], [], []⟩, fr := [envOf nm (fdAt (KK w.params) 820).scope h.objs.size fa cd] }
  have nocell : ∀ x k, (fdAt (KK w.params) 820).scope.names.lookup x = some k → k ≠ .cell ∧ k ≠ .free := fun x k e => by
    rw [lookup_getA] at e
    have := List.all_eq_true.mp (lw_names w.params) _ (getA_mem e)
    constructor <;> rintro rfl <;> cases this
  have hf : f.Ok (KK w.params) mg mb := by
    refine ⟨fun env he => ?_, rfl, lw_kind w.params, hid_gd hl ht G, rfl, fun _ _ => rfl, fun x e => absurd rfl (nocell x _ e).1, fun x e => absurd rfl (nocell x _ e).2⟩
    have he : env = envOf nm (fdAt (KK w.params) 820).scope h.objs.size fa cd := List.mem_singleton.mp he
    subst he
    exact ⟨lw_kind w.params, _, rfl, .inl rfl⟩
  have hxl : xs.length ≤ 63 := by rw [hI.length]; exact hz
  have hR : R w ⟨s.os⟩ f.h₀ f.L f.outs [("script", .tri ns)] ⟨[], 0⟩ ⟨fun _ => none, [(l, listOf xs.toArray n)]⟩ s := by
    refine ⟨⟨m, ⟨F.ns, fun b o e => F.keep b o (of_hideAll _ e), Nat.le_of_eq (hideAll_size _ _)⟩, fun x v e => ?_⟩,
      ⟨[(l, listOf xs.toArray n), (780, tbO #[])], fun p hp => ?_, .nil ⟨[(780, tbO #[])], [], rfl, ⟨#[], rfl, trivial⟩, .nil⟩, ?_⟩, fun _ _ => rfl, rfl, hg, htk⟩
    · have hx : x = "script" ∧ v = .tri ns := by
        have := getA_mem e
        simpa using this
      rw [hx.1, hx.2]
      exact ⟨_, hm, .tri (.head _) hI (by rw [sizeLine_eq]; omega)⟩
    · simp only [List.mem_cons, List.not_mem_nil, or_false] at hp
      rcases hp with rfl | rfl
      · exact ⟨F.keep _ _ hl, Nat.ne_of_lt (Heap.lt_size hl), hideAll_none _ (.head _)⟩
      · exact ⟨F.keep _ _ ht, Nat.ne_of_lt (Heap.lt_size ht), hideAll_none _ (.tail _ (.head _))⟩
    · simp [hl780]
  refine lw_body (os₀ := ⟨s.os⟩) (f := f) hf rfl (by show callerA.depth + 1 < 400; decide +kernel) (by show callerA.units + 3 < 4000; decide +kernel) hz _ s Q Ex hR ?_
  intro fl loc' st' ρ' fv s' ⟨e1, e2⟩ le hR' hv
  subst e1
  cases hv with
  | ret hv =>
    cases hv
    obtain ⟨m', F', _⟩ := hR'.fr
    obtain ⟨ps, k1, _⟩ := hR'.ctOut
    obtain ⟨news, N, T, _⟩ := hR'.led
    refine q s' hR'.os hR'.gens (fun b o hb e => ?_) ⟨ps, k1⟩
    by_cases hbl : b = l
    · subst hbl
      have hi := le.im _ (.head _)
      obtain ⟨pre, l', rfl, ⟨c, fs, rfl, _⟩, _⟩ := T.parts
      have := (N _ (List.mem_append_right _ (List.mem_append_right _ (List.mem_append_left _ hi)))).1
      rw [hl] at e; cases e
      exact this
    · exact F'.keep b o (hideAll_get _ e (by simp [hbl, hb]))
theorem law_walk' {prog : Program} {s : Shared} {m : Str → Option Value} {ns : List Int} {nm : Str} {fa : Addr} {cd : Value} {Q : Flow → Shared → Prop} {Ex : Value → Shared → Prop} {sc : Scope} {body : List Stmt}
    (hsc : sc = (fdAt (KK w.params) 820).scope) (hb : body = lwB w.params)
    (G : Gd (KK w.params) mg mb h) (hl : h.get? l = some (listOf xs.toArray n)) (ht : h.get? 780 = some (tbO #[])) (hI : IntsAre xs ns) (hz : ns.length ≤ 63)
    (F : Fr h h.objs.size s.heap m) (hm : m "script" = some (.ref l)) (hg : AllBare s.gens) (htk : 0 < s.toks)
    (q : ∀ s', s'.os = s.os → AllBare s'.gens → (∀ b o, b ≠ 780 → h.get? b = some o → s'.heap.get? b = some o) → (∃ ps, s'.heap.get? 780 = some (tbO ps)) → Q (.ret (.bool true)) s') :
    wpAny (model prog w) (callerA.deeper (envOf nm sc h.objs.size fa cd)) (execs body (envOf nm sc h.objs.size fa cd)) Q Ex s := by
  subst hsc hb
  exact law_walk G hl ht hI hz F hm hg htk q
end
noncomputable def WellI : List Value → List WData → Params → Heap → Prop
  | xs, [], _, _ => xs = []
  | xs, d :: ds, P, h => ∃ x ys, xs = x :: ys ∧ Well P h x d ∧ WellAll P h ys ds
theorem well_inv {P : Params} {h : Heap} {xs : List Value} {ds : List WData} (W : WellAll P h xs ds) : WellI xs ds P h := by
  cases W with
  | nil => exact rfl
  | cons a b => exact ⟨_, _, rfl, a, b⟩
noncomputable def WellN (v : Value) : WData → Prop
  | .int n => ∃ t, v = .int n t
  | _ => True
theorem well_int {P : Params} {h : Heap} {v : Value} {d : WData} (W : Well P h v d) : WellN v d := by
  cases W with
  | int i t => exact ⟨t, rfl⟩
  | _ => exact trivial
theorem well_all {P : Params} {h : Heap} {ns : List Int} : ∀ {xs : List Value}, WellAll P h xs (ns.map fun i => ofPy (.int i)) → IntsAre xs ns := by
  induction ns with
  | nil => intro xs W; exact (show xs = [] from well_inv W) ▸ .nil
  | cons n ns ih =>
    intro xs W
    obtain ⟨x, ys, rfl, hx, hr⟩ := well_inv W
    obtain ⟨t, rfl⟩ := (show WellN x (.int n) from well_int hx)
    exact .cons n t (ih hr)
theorem well_ints {P : Params} {h : Heap} {v : Value} {ns : List Int} (W : Well P h v (ofPy (.list (ns.map .int)))) : ∃ l xs n, v = .ref l ∧ h.get? l = some (listOf xs.toArray n) ∧ IntsAre xs ns := by
  have e : ofPy (.list (ns.map .int)) = .list (ns.map fun i => ofPy (.int i)) := by
    show WData.list (ofPys _) = _
    rw [ofPys_eq, List.map_map]; rfl
  rw [e] at W
  cases W with
  | list h1 h2 => exact ⟨_, _, _, rfl, h1, well_all h2⟩
theorem tab_780 {P : Params} {q : Program} {loose : List Str} {mean : ExcName → Option Value} {mg mb : Str → Option Value} {h : Heap} (T : Top q loose mean mg mb h) (X : (KK P).In h) (join_rec : ((recsOf q).map (·.name)).any (sEq · "join") = true) : h.TableAt 784 780 #[] := by
  obtain ⟨x, hx, ex⟩ := List.any_eq_true.mp join_rec
  obtain ⟨d, hd, e⟩ := List.mem_map.mp hx
  subst e
  have ex := sEq_iff.mp ex
  obtain ⟨a, o, fd, c, A, h1, h2, h3, h4, h5, h6⟩ := T.tab d hd
  rw [ex] at h1
  have hm : mg "join" = some (.ref 785) := mg_of X T.g (by kernel_rfl!)
  have e := Value.ref.inj (Option.some.inj (h1.symm.trans hm))
  subst e
  obtain ⟨oc, od, osl, name, params, dV, kV, doc, pm, an, ct, hlook, _⟩ := (ok_785 P).look
  have e := Option.some.inj (h2.symm.trans (X _ _ hlook))
  subst e
  have e := Data.func.inj h3
  subst e
  have e := Value.ref.inj (h4.symm.trans (jn_code P))
  subst e
  obtain ⟨oc', vs', g1, g2, g3, g4⟩ := h6.1
  have e := Option.some.inj (g1.symm.trans (X _ _ (cd_look P)))
  subst e
  have e := Data.fields.inj (g3.symm.trans (cd_data P))
  subst e
  exact Value.ref.inj (Option.some.inj (g4.symm.trans (cd_11 P))) ▸ h6
end Mine
end
section
open PySem PySem.W PyProof.Rows
set_option Elab.async false
set_option maxRecDepth 100000
set_option maxHeartbeats 8000000
namespace Mine
theorem hd.tw11942693397608355085 : True := ⟨⟩
theorem hd.tw6818987989461384207 : True := ⟨⟩
theorem hd.tw14143348200573808938 : True := ⟨⟩
theorem hd.tw1810128313956251070 : True := ⟨⟩
theorem hd.tw15424705756172794927 : True := ⟨⟩
theorem hd.tw17311223219408574766 : True := ⟨⟩
theorem hd.tw7399621439246259153 : True := ⟨⟩
theorem hd.tw5322579261384874668 : True := ⟨⟩
theorem hd.tw17087091549796120035 : True := ⟨⟩
theorem hd.tw6924109203229866365 : True := ⟨⟩
theorem hd.tw13047593935725612058 : True := ⟨⟩
theorem hd.tw15616948245753086127 : True := ⟨⟩
theorem hd.tw8587404781116728655 : True := ⟨⟩
theorem hd.tw13293453174229064190 : True := ⟨⟩
theorem hd.tw7519716089354478335 : True := ⟨⟩
theorem hd.tw14892549342360969540 : True := ⟨⟩
theorem hd.tw978945382295711627 : True := ⟨⟩
theorem hd.tw7523672394736509286 : True := ⟨⟩
theorem hd.tw11034497122203965937 : True := ⟨⟩
theorem hd.tw6883898783123881946 : True := ⟨⟩
theorem hd.tw6293948785866598258 : True := ⟨⟩
theorem hd.tw5961118342813265553 : True := ⟨⟩
theorem hd.tw9641152695372364146 : True := ⟨⟩
theorem hd.tw17325209927041812611 : True := ⟨⟩
theorem hd.tw11128854368766332075 : True := ⟨⟩
theorem hd.tw12591134339009171964 : True := ⟨⟩
theorem hd.tw4138081844389336918 : True := ⟨⟩
theorem hd.tw11407884054146074569 : True := ⟨⟩
theorem hd.tw3722166409189360004 : True := ⟨⟩
theorem hd.tw4377701919642642989 : True := ⟨⟩
theorem hd.tw13468300074154594103 : True := ⟨⟩
theorem hd.tw13478424178397462001 : True := ⟨⟩
theorem hd.tw16246848685605474055 : True := ⟨⟩
theorem hd.tw8068729725432388964 : True := ⟨⟩
theorem hd.tw469108185253701220 : True := ⟨⟩
theorem hd.tw9258712216579463092 : True := ⟨⟩
theorem hd.tw9577689765879766989 : True := ⟨⟩
theorem hd.tw4367455430839740993 : True := ⟨⟩
theorem hd.tw10216474801634566288 : True := ⟨⟩
theorem hd.tw651126834518081296 : True := ⟨⟩
theorem hd.tw12480425521718506038 : True := ⟨⟩
theorem hd.tw4091639524402994376 : True := ⟨⟩
theorem hd.tw2839761810297210574 : True := ⟨⟩
theorem hd.tw5148922909946612681 : True := ⟨⟩
theorem hd.tw12414669353804360901 : True := ⟨⟩
theorem hd.tw348424937076964643 : True := ⟨⟩
theorem hd.tw5781342201191254626 : True := ⟨⟩
theorem hd.tw17711083657039698284 : True := ⟨⟩
theorem hd.tw5732804406350252772 : True := ⟨⟩
theorem hd.tw1452849714261714991 : True := ⟨⟩
theorem hd.tw16302227732802510677 : True := ⟨⟩
theorem hd.tw14620637471214046174 : True := ⟨⟩
theorem hd.tw4126306136578151734 : True := ⟨⟩
theorem hd.tw137786328141462057 : True := ⟨⟩
theorem hd.tw5289708365253275695 : True := ⟨⟩
theorem hd.tw14176624398918483544 : True := ⟨⟩
theorem hd.tw14078009766183191694 : True := ⟨⟩
theorem hd.tw15043168886218598503 : True := ⟨⟩
theorem hd.tw12995909851351757392 : True := ⟨⟩
theorem hd.tw15179676742415161110 : True := ⟨⟩
theorem hd.tw2448417245163862455 : True := ⟨⟩
theorem hd.tw10752148897807903841 : True := ⟨⟩
theorem hd.tw2867327485932766208 : True := ⟨⟩
theorem hd.tw16649331688326792143 : True := ⟨⟩
theorem hd.tw15103106377680225435 : True := ⟨⟩
theorem hd.tw11652457597714270106 : True := ⟨⟩
theorem hd.tw11224897151958998736 : True := ⟨⟩
theorem hd.tw8674980644004459391 : True := ⟨⟩
theorem hd.tw3259873300814134281 : True := ⟨⟩
theorem hd.tw697623264460660564 : True := ⟨⟩
theorem hd.tw7793673504863384051 : True := ⟨⟩
theorem hd.tw17312999752573914782 : True := ⟨⟩
theorem hd.tw3513125359445811510 : True := ⟨⟩
theorem hd.tw13372043803930879067 : True := ⟨⟩
theorem hd.tw4856431653887292112 : True := ⟨⟩
theorem hd.tw307737655149646647 : True := ⟨⟩
theorem hd.tw12669576375859063689 : True := ⟨⟩
theorem hd.tw14454528878903484812 : True := ⟨⟩
theorem hd.tw11117797201346649052 : True := ⟨⟩
theorem hd.tw12839419658142373124 : True := ⟨⟩
theorem hd.tw6046454685291232161 : True := ⟨⟩
theorem hd.tw2216850387143573719 : True := ⟨⟩
theorem hd.tw8684328023851190084 : True := ⟨⟩
theorem hd.tw15427206886491885616 : True := ⟨⟩
theorem hd.tw6709418730364537143 : True := ⟨⟩
theorem hd.tw7752569895197466512 : True := ⟨⟩
theorem hd.tw10507497572311344420 : True := ⟨⟩
theorem hd.tw461538923250603899 : True := ⟨⟩
theorem hd.tw6838551448383532254 : True := ⟨⟩
theorem hd.tw18241275227582772068 : True := ⟨⟩
theorem hd.tw5592360268479517082 : True := ⟨⟩
theorem hd.tw9077708301081682751 : True := ⟨⟩
theorem hd.tw17471934795394947791 : True := ⟨⟩
theorem hd.tw10654345511274693656 : True := ⟨⟩
theorem hd.tw13994979335412520660 : True := ⟨⟩
theorem hd.tw1847840615245081061 : True := ⟨⟩
theorem hd.tw13066319289922817542 : True := ⟨⟩
theorem hd.tw17772917993097084435 : True := ⟨⟩
theorem hd.tw8047900516022102942 : True := ⟨⟩
theorem hd.tw368366308016060594 : True := ⟨⟩
theorem hd.tw8671608845466749128 : True := ⟨⟩
theorem hd.tw14896477498954680388 : True := ⟨⟩
theorem hd.tw12629531694177875297 : True := ⟨⟩
theorem hd.tw8343274005884668182 : True := ⟨⟩
theorem hd.tw1445366717492459972 : True := ⟨⟩
theorem hd.tw6998783941825042932 : True := ⟨⟩
theorem hd.tw4724112764586752083 : True := ⟨⟩
theorem hd.tw8801323125487838256 : True := ⟨⟩
theorem hd.tw12509009523430927325 : True := ⟨⟩
theorem hd.tw9087110039335098043 : True := ⟨⟩
theorem hd.tw12936449754285732098 : True := ⟨⟩
theorem hd.tw16301592386811335294 : True := ⟨⟩
theorem hd.tw16332348944364537037 : True := ⟨⟩
theorem hd.tw13330244855972007585 : True := ⟨⟩
theorem hd.tw11915594877312485397 : True := ⟨⟩
theorem hd.tw2114630138375439770 : True := ⟨⟩
theorem hd.tw10012880186880212623 : True := ⟨⟩
theorem hd.tw7752767780024739350 : True := ⟨⟩
theorem hd.tw17583924267553061668 : True := ⟨⟩
theorem hd.tw17577478241444706838 : True := ⟨⟩
theorem hd.tw17650839729002327288 : True := ⟨⟩
theorem hd.tw7540741092611519060 : True := ⟨⟩
theorem hd.tw12092154237167983948 : True := ⟨⟩
theorem hd.tw3763122126050802206 : True := ⟨⟩
theorem hd.tw732345407407602841 : True := ⟨⟩
theorem hd.tw13129650132239662433 : True := ⟨⟩
theorem hd.tw9290580381591922422 : True := ⟨⟩
theorem hd.tw6528754448969337418 : True := ⟨⟩
theorem hd.tw10331275065770859567 : True := ⟨⟩
theorem hd.tw16957190012819468567 : True := ⟨⟩
theorem hd.tw5010264101278932077 : True := ⟨⟩
theorem hd.tw9073681462420916055 : True := ⟨⟩
theorem hd.tw14598272352848978880 : True := ⟨⟩
theorem hd.tw9429285754427346401 : True := ⟨⟩
theorem hd.tw4299596416071116603 : True := ⟨⟩
theorem hd.tw9600117475790353255 : True := ⟨⟩
theorem hd.tw16357263729072622229 : True := ⟨⟩
theorem hd.tw5373601922739893978 : True := ⟨⟩
theorem hd.tw17101829828953933863 : True := ⟨⟩
theorem hd.tw8770205317985620760 : True := ⟨⟩
theorem hd.tw7540655947842036084 : True := ⟨⟩
theorem hd.tw18159583340796038533 : True := ⟨⟩
theorem hd.tw14353793391729792155 : True := ⟨⟩
theorem hd.tw6902198413751149823 : True := ⟨⟩
theorem hd.tw4990156530697904881 : True := ⟨⟩
theorem hd.tw6697089970055633809 : True := ⟨⟩
theorem hd.tw4014540891139286612 : True := ⟨⟩
theorem hd.tw7354087734392854552 : True := ⟨⟩
theorem hd.tw5567388512258382067 : True := ⟨⟩
theorem hd.tw8015326511298524721 : True := ⟨⟩
theorem hd.tw7746578258024575070 : True := ⟨⟩
theorem hd.tw12588582704262371052 : True := ⟨⟩
theorem hd.tw13064122474441708322 : True := ⟨⟩
theorem hd.tw12035623454917710897 : True := ⟨⟩
theorem hd.tw1811199898794616982 : True := ⟨⟩
theorem hd.tw5282504435634884242 : True := ⟨⟩
theorem hd.tw11893437276241958245 : True := ⟨⟩
theorem hd.tw11953376511379268794 : True := ⟨⟩
theorem hd.tw1382963296337349011 : True := ⟨⟩
theorem hd.tw4867443594122359892 : True := ⟨⟩
theorem hd.tw18300207936620678264 : True := ⟨⟩
theorem hd.tw7867956165831070988 : True := ⟨⟩
theorem hd.tw13518370688599389936 : True := ⟨⟩
theorem hd.tw13342606739435360313 : True := ⟨⟩
theorem hd.tw9842699097658496709 : True := ⟨⟩
theorem hd.tw11249132867342737325 : True := ⟨⟩
theorem hd.tw5363564295841288755 : True := ⟨⟩
theorem hd.tw10597953479707049108 : True := ⟨⟩
theorem hd.tw5562173858411828344 : True := ⟨⟩
theorem hd.tw13463106324228987060 : True := ⟨⟩
theorem hd.tw17570734847185409352 : True := ⟨⟩
theorem hd.tw13919464512627920130 : True := ⟨⟩
theorem hd.tw7891253978561527248 : True := ⟨⟩
theorem hd.tw2167537188350426706 : True := ⟨⟩
theorem hd.tw5278057926702712004 : True := ⟨⟩
theorem hd.tw13903934854276604550 : True := ⟨⟩
theorem hd.tw15054049728407801353 : True := ⟨⟩
theorem hd.tw3443669649825651883 : True := ⟨⟩
theorem hd.tw6423634429210846174 : True := ⟨⟩
theorem hd.tw18203504233945503714 : True := ⟨⟩
theorem hd.tw12131494931117144662 : True := ⟨⟩
theorem hd.tw18160293313031310949 : True := ⟨⟩
theorem hd.tw3915529967508079626 : True := ⟨⟩
theorem hd.tw6545403380812914513 : True := ⟨⟩
theorem hd.tw4817003022231809500 : True := ⟨⟩
theorem hd.tw17784710179527947834 : True := ⟨⟩
theorem hd.tw6482722132109649516 : True := ⟨⟩
theorem hd.tw2394040479862359591 : True := ⟨⟩
theorem hd.tw3480954088277226078 : True := ⟨⟩
theorem hd.tw14006173549557618073 : True := ⟨⟩
theorem hd.tw16502264421070913907 : True := ⟨⟩
theorem hd.tw526207354791536317 : True := ⟨⟩
theorem hd.tw5464967688985200232 : True := ⟨⟩
theorem hd.tw11912922877643110818 : True := ⟨⟩
theorem hd.tw5464280966869935822 : True := ⟨⟩
theorem hd.tw1448358952932078338 : True := ⟨⟩
theorem hd.tw9271970288684553227 : True := ⟨⟩
theorem hd.tw8081886968326746073 : True := ⟨⟩
theorem hd.tw13609717118414637909 : True := ⟨⟩
theorem hd.tw10450363280022070651 : True := ⟨⟩
theorem hd.tw3969467460574380271 : True := ⟨⟩
theorem hd.tw6636792957720756321 : True := ⟨⟩
theorem hd.tw2799716289819351777 : True := ⟨⟩
theorem hd.tw12173100003817136821 : True := ⟨⟩
theorem hd.tw7082855905992002993 : True := ⟨⟩
theorem hd.tw14031261019411111474 : True := ⟨⟩
theorem hd.tw11631869004601391166 : True := ⟨⟩
theorem hd.tw14400467628812073631 : True := ⟨⟩
theorem hd.tw4115565904173853331 : True := ⟨⟩
theorem hd.tw13566260322249332789 : True := ⟨⟩
theorem hd.tw6761669909254768831 : True := ⟨⟩
theorem hd.tw5857384340933288121 : True := ⟨⟩
theorem hd.tw10273187271170590260 : True := ⟨⟩
theorem hd.tw10111801491309104144 : True := ⟨⟩
theorem hd.tw6982297934935202809 : True := ⟨⟩
theorem hd.tw4768578896829404305 : True := ⟨⟩
theorem hd.tw17454471701868102899 : True := ⟨⟩
theorem hd.tw10031445930688152421 : True := ⟨⟩
theorem hd.tw13574768056931433239 : True := ⟨⟩
theorem hd.tw2871226400543044806 : True := ⟨⟩
theorem hd.tw13116648468122694418 : True := ⟨⟩
theorem hd.tw16456969618363192440 : True := ⟨⟩
theorem hd.tw5715356086224469760 : True := ⟨⟩
theorem hd.tw7721951785955056133 : True := ⟨⟩
theorem hd.tw15931116738044738221 : True := ⟨⟩
theorem hd.tw5391431472348687022 : True := ⟨⟩
theorem hd.tw14294001040229213422 : True := ⟨⟩
theorem hd.tw7792395482447073224 : True := ⟨⟩
theorem hd.tw13280443560766958183 : True := ⟨⟩
theorem hd.tw10525666975642140466 : True := ⟨⟩
theorem hd.tw17217394356764393341 : True := ⟨⟩
theorem hd.tw5420774739373220312 : True := ⟨⟩
theorem hd.tw6800881396052196260 : True := ⟨⟩
theorem hd.tw2502866573005156581 : True := ⟨⟩
theorem hd.tw12901994302517312135 : True := ⟨⟩
theorem hd.tw6819123309680001836 : True := ⟨⟩
theorem hd.tw1299046323782801668 : True := ⟨⟩
theorem hd.tw17901334829092211166 : True := ⟨⟩
theorem hd.tw2195365466389143174 : True := ⟨⟩
theorem hd.tw4609310046291750870 : True := ⟨⟩
theorem hd.tw13225837485096350037 : True := ⟨⟩
theorem hd.tw1208734638264122097 : True := ⟨⟩
theorem hd.tw7628703163842673926 : True := ⟨⟩
theorem hd.tw16037735763661986305 : True := ⟨⟩
theorem hd.tw6598312636042714100 : True := ⟨⟩
theorem hd.tw3759623122121258479 : True := ⟨⟩
theorem hd.tw5490696432328200686 : True := ⟨⟩
theorem hd.tw13218659294841961345 : True := ⟨⟩
theorem hd.tw8450674356893351874 : True := ⟨⟩
theorem hd.tw5873113503399164460 : True := ⟨⟩
theorem hd.tw1088296927520436173 : True := ⟨⟩
theorem hd.tw1865391376527767206 : True := ⟨⟩
theorem hd.tw5513025101015932971 : True := ⟨⟩
theorem hd.tw17088047866570459193 : True := ⟨⟩
theorem hd.tw16155205043701107222 : True := ⟨⟩
theorem hd.tw11399449904127653305 : True := ⟨⟩
theorem hd.tw8117029840178788049 : True := ⟨⟩
theorem hd.tw8545014587354053640 : True := ⟨⟩
theorem hd.tw9427301549700849589 : True := ⟨⟩
theorem hd.tw9421340871869096474 : True := ⟨⟩
theorem hd.tw4571360026077952820 : True := ⟨⟩
theorem hd.tw18194447625416937593 : True := ⟨⟩
theorem hd.tw7610815399733428385 : True := ⟨⟩
theorem hd.tw7292484366425897655 : True := ⟨⟩
theorem hd.tw16053994301053490033 : True := ⟨⟩
theorem hd.tw11636924220087485885 : True := ⟨⟩
theorem hd.tw7914949630228597729 : True := ⟨⟩
theorem hd.tw12050417470231563642 : True := ⟨⟩
theorem hd.tw6646985988748340704 : True := ⟨⟩
theorem hd.tw5360435025570183010 : True := ⟨⟩
theorem hd.tw13474097485772985973 : True := ⟨⟩
theorem hd.tw7676003278276379012 : True := ⟨⟩
theorem hd.tw4292457097857839397 : True := ⟨⟩
theorem hd.tw14969656758113653353 : True := ⟨⟩
theorem hd.tw11672842613191775419 : True := ⟨⟩
theorem hd.tw10737458330869947321 : True := ⟨⟩
theorem hd.tw3922637787740509324 : True := ⟨⟩
theorem hd.tw10844753989422098599 : True := ⟨⟩
theorem hd.tw190519026028168232 : True := ⟨⟩
theorem hd.tw16056359734778111409 : True := ⟨⟩
theorem hd.tw12103701333906454223 : True := ⟨⟩
theorem hd.tw11623594800819314181 : True := ⟨⟩
theorem hd.tw920214292312260371 : True := ⟨⟩
theorem hd.tw9277588360372424766 : True := ⟨⟩
theorem hd.tw8654268224221117138 : True := ⟨⟩
theorem hd.tw15463257786427224491 : True := ⟨⟩
theorem hd.tw9048539425550374019 : True := ⟨⟩
theorem hd.tw8773699223549846113 : True := ⟨⟩
theorem hd.tw17047115858639842297 : True := ⟨⟩
theorem hd.tw17420951861521290806 : True := ⟨⟩
theorem hd.tw5978321128707920903 : True := ⟨⟩
theorem hd.tw6060742912462422084 : True := ⟨⟩
theorem hd.tw2457190517430149469 : True := ⟨⟩
theorem hd.tw1118553966540926140 : True := ⟨⟩
theorem hd.tw8965841893048198262 : True := ⟨⟩
theorem hd.tw2263123870574935043 : True := ⟨⟩
theorem hd.tw9783614193127449063 : True := ⟨⟩
theorem hd.tw14586822029978311858 : True := ⟨⟩
theorem hd.tw2770886237722202814 : True := ⟨⟩
theorem hd.tw3787991596828424046 : True := ⟨⟩
theorem hd.tw5635641802508607975 : True := ⟨⟩
theorem hd.tw16823583209533085739 : True := ⟨⟩
theorem hd.tw13483081372092288885 : True := ⟨⟩
theorem hd.tw14889214211474231398 : True := ⟨⟩
theorem hd.tw17655025648336401564 : True := ⟨⟩
theorem hd.tw4706079058837389440 : True := ⟨⟩
theorem hd.tw14060154772996877548 : True := ⟨⟩
theorem hd.tw11109741339103130912 : True := ⟨⟩
theorem hd.tw8191903926673212241 : True := ⟨⟩
theorem hd.tw6372862494175223470 : True := ⟨⟩
theorem hd.tw17335414052712997756 : True := ⟨⟩
theorem hd.tw8727321023445011275 : True := ⟨⟩
theorem hd.tw5293500477943481205 : True := ⟨⟩
theorem hd.tw6352655612330318208 : True := ⟨⟩
theorem hd.tw9244321171653502345 : True := ⟨⟩
theorem hd.tw4993660671451451078 : True := ⟨⟩
theorem hd.tw8538877666451538035 : True := ⟨⟩
theorem hd.tw6374767894290048045 : True := ⟨⟩
theorem hd.tw11729958736954745289 : True := ⟨⟩
theorem hd.tw8721321648031231958 : True := ⟨⟩
theorem hd.tw3085183777334472315 : True := ⟨⟩
theorem hd.tw2134215046882385847 : True := ⟨⟩
theorem hd.tw17042034404087940706 : True := ⟨⟩
theorem hd.tw3139860346522395057 : True := ⟨⟩
theorem hd.tw574300837803046910 : True := ⟨⟩
theorem hd.tw7712819752767893495 : True := ⟨⟩
theorem hd.tw1563692795949630186 : True := ⟨⟩
theorem hd.tw7085514621470718492 : True := ⟨⟩
theorem hd.tw16006246977917349235 : True := ⟨⟩
theorem hd.tw6830512106363814048 : True := ⟨⟩
theorem hd.tw13855946660403688772 : True := ⟨⟩
theorem hd.tw5245234834050458271 : True := ⟨⟩
theorem hd.tw7541792107247259296 : True := ⟨⟩
theorem hd.tw13534587687697041467 : True := ⟨⟩
theorem hd.tw10170382586518783626 : True := ⟨⟩
theorem hd.tw2284436838669742495 : True := ⟨⟩
theorem hd.tw6988595667528144454 : True := ⟨⟩
theorem hd.tw15963624873386084050 : True := ⟨⟩
theorem hd.tw15166520500009309586 : True := ⟨⟩
theorem hd.tw8351282476255451920 : True := ⟨⟩
theorem hd.tw17574625026820762457 : True := ⟨⟩
theorem hd.tw16794629799341752650 : True := ⟨⟩
theorem hd.tw11011131195910976488 : True := ⟨⟩
theorem hd.tw16412773359747925120 : True := ⟨⟩
theorem hd.tw7941745277869089046 : True := ⟨⟩
theorem hd.tw10947331860392259696 : True := ⟨⟩
theorem hd.tw17673860158736603733 : True := ⟨⟩
theorem hd.tw4225703048834024713 : True := ⟨⟩
theorem hd.tw1584506945513601688 : True := ⟨⟩
theorem hd.tw9557236495431379559 : True := ⟨⟩
theorem hd.tw9753359207989701909 : True := ⟨⟩
theorem hd.tw7366208706002141716 : True := ⟨⟩
theorem hd.tw4015398097383911347 : True := ⟨⟩
theorem hd.tw12393119488966705847 : True := ⟨⟩
theorem hd.tw15277330632498426303 : True := ⟨⟩
theorem hd.tw16945582573551092051 : True := ⟨⟩
theorem hd.tw1425423193147277237 : True := ⟨⟩
theorem hd.tw12175748835895409678 : True := ⟨⟩
theorem hd.tw3828038474966422129 : True := ⟨⟩
theorem hd.tw9430268157657104642 : True := ⟨⟩
theorem hd.tw9983964734214183352 : True := ⟨⟩
theorem hd.tw4164563972172044665 : True := ⟨⟩
theorem hd.tw17386561741084979693 : True := ⟨⟩
theorem hd.tw10098268173465320503 : True := ⟨⟩
theorem hd.tw6109525258741381055 : True := ⟨⟩
theorem hd.tw15987713032478767096 : True := ⟨⟩
theorem hd.tw8004679753235328684 : True := ⟨⟩
theorem hd.tw2383465660341134662 : True := ⟨⟩
theorem hd.tw12058812876911547015 : True := ⟨⟩
theorem hd.tw14040608126747316905 : True := ⟨⟩
theorem hd.tw16853341256802265648 : True := ⟨⟩
theorem hd.tw8898355551111435312 : True := ⟨⟩
theorem hd.tw2595994805191909183 : True := ⟨⟩
theorem hd.tw9386895884608548742 : True := ⟨⟩
theorem hd.tw18330183385023645277 : True := ⟨⟩
theorem hd.tw11213053971927718326 : True := ⟨⟩
theorem hd.tw13458954166980676860 : True := ⟨⟩
theorem hd.tw13001811119718631651 : True := ⟨⟩
theorem hd.tw3876449026389394717 : True := ⟨⟩
theorem hd.tw9927179837433541088 : True := ⟨⟩
theorem hd.tw1588505670450824345 : True := ⟨⟩
theorem hd.tw15527848837575444561 : True := ⟨⟩
theorem hd.tw4523669819894539328 : True := ⟨⟩
theorem hd.tw14768889098011018680 : True := ⟨⟩
theorem hd.tw15766875824913328220 : True := ⟨⟩
theorem hd.tw17002781174329755331 : True := ⟨⟩
theorem hd.tw3215350286424857435 : True := ⟨⟩
theorem hd.tw13638418597567726942 : True := ⟨⟩
theorem hd.tw14772383043592177042 : True := ⟨⟩
theorem hd.tw1511243299971373483 : True := ⟨⟩
theorem hd.tw3381375190539634487 : True := ⟨⟩
theorem hd.tw9420132969298855359 : True := ⟨⟩
theorem hd.tw9983995961361265002 : True := ⟨⟩
theorem hd.tw9627899436633539337 : True := ⟨⟩
theorem hd.tw10905181550472923540 : True := ⟨⟩
theorem hd.tw13828106393651249627 : True := ⟨⟩
theorem hd.tw6552017021841146097 : True := ⟨⟩
theorem hd.tw17588044629489971554 : True := ⟨⟩
theorem hd.tw6906073325868019850 : True := ⟨⟩
theorem hd.tw10727248033764811480 : True := ⟨⟩
theorem hd.tw2000490053193787569 : True := ⟨⟩
theorem hd.tw16009884308244765898 : True := ⟨⟩
theorem hd.tw16473244170626142550 : True := ⟨⟩
theorem hd.tw14859038896228082724 : True := ⟨⟩
theorem hd.tw14817486215969520457 : True := ⟨⟩
theorem hd.tw226724450230711188 : True := ⟨⟩
theorem hd.tw16158619036321959407 : True := ⟨⟩
theorem hd.tw6186238094035137676 : True := ⟨⟩
theorem hd.tw14960593345356199642 : True := ⟨⟩
theorem hd.tw4182648748547736412 : True := ⟨⟩
theorem hd.tw10743916045514856203 : True := ⟨⟩
theorem hd.tw16138627921320673191 : True := ⟨⟩
theorem hd.tw14705683404202351889 : True := ⟨⟩
theorem hd.tw15508949281206285077 : True := ⟨⟩
theorem hd.tw13171141561276507362 : True := ⟨⟩
theorem hd.tw10944956837784636368 : True := ⟨⟩
theorem hd.tw4725425184044842548 : True := ⟨⟩
theorem hd.tw17172931820748874959 : True := ⟨⟩
theorem hd.tw7898215921889874393 : True := ⟨⟩
theorem hd.tw9312999139381119592 : True := ⟨⟩
theorem hd.tw4272726840584523970 : True := ⟨⟩
theorem hd.tw3109861748172591687 : True := ⟨⟩
theorem hd.tw16257038226119295666 : True := ⟨⟩
theorem hd.tw5135410709514514960 : True := ⟨⟩
theorem hd.tw8652628183442184457 : True := ⟨⟩
theorem hd.tw12453114486196615683 : True := ⟨⟩
theorem hd.tw15595854959937240912 : True := ⟨⟩
theorem hd.tw16828841361933241965 : True := ⟨⟩
theorem hd.tw17737187407176874954 : True := ⟨⟩
theorem hd.tw18439511094173506614 : True := ⟨⟩
theorem hd.tw18271470728773173374 : True := ⟨⟩
theorem hd.tw15083628210047938546 : True := ⟨⟩
theorem hd.tw9390866547671247325 : True := ⟨⟩
theorem hd.tw6196171512934965099 : True := ⟨⟩
theorem hd.tw3405361230339686725 : True := ⟨⟩
theorem hd.tw16169374299450900766 : True := ⟨⟩
theorem hd.tw4527685146903026889 : True := ⟨⟩
theorem hd.tw11415386828835887437 : True := ⟨⟩
theorem hd.tw13642289790063256904 : True := ⟨⟩
theorem hd.tw11248203148988284874 : True := ⟨⟩
theorem hd.tw7175568609137494628 : True := ⟨⟩
theorem hd.tw1421266605352829712 : True := ⟨⟩
theorem hd.tw6898005170327248138 : True := ⟨⟩
theorem hd.tw8377043916266704855 : True := ⟨⟩
theorem hd.tw10458740792067480800 : True := ⟨⟩
theorem hd.tw128412058910260475 : True := ⟨⟩
theorem hd.tw16742648372681657963 : True := ⟨⟩
theorem hd.tw3219085151875037572 : True := ⟨⟩
theorem hd.tw12685813987229840507 : True := ⟨⟩
theorem hd.tw9614397579173300960 : True := ⟨⟩
theorem hd.tw1506431575118746342 : True := ⟨⟩
theorem hd.tw13866372431405929976 : True := ⟨⟩
theorem hd.tw8887996145723391905 : True := ⟨⟩
theorem hd.tw4449123307109862055 : True := ⟨⟩
theorem hd.tw12112201142124510154 : True := ⟨⟩
theorem hd.tw8044012406986999415 : True := ⟨⟩
theorem hd.tw17640862679970642326 : True := ⟨⟩
theorem hd.tw12659887813214467275 : True := ⟨⟩
theorem hd.tw8589211134812392127 : True := ⟨⟩
theorem hd.tw12353913968525425643 : True := ⟨⟩
theorem hd.tw11375277706881905925 : True := ⟨⟩
theorem hd.tw5715734110848049390 : True := ⟨⟩
theorem hd.tw15889433306838628275 : True := ⟨⟩
theorem hd.tw11898664097942606779 : True := ⟨⟩
theorem hd.tw12394076208661396346 : True := ⟨⟩
theorem hd.tw13038990169509382042 : True := ⟨⟩
theorem hd.tw8945485805214734075 : True := ⟨⟩
theorem hd.tw17213754286329925777 : True := ⟨⟩
theorem hd.tw12331051067403766639 : True := ⟨⟩
theorem hd.tw4643362625855044894 : True := ⟨⟩
theorem hd.tw14333710738500927179 : True := ⟨⟩
theorem hd.tw16091413853298234908 : True := ⟨⟩
theorem hd.tw2616952524820836436 : True := ⟨⟩
theorem hd.tw5238241317806426387 : True := ⟨⟩
theorem hd.tw13931416462566266981 : True := ⟨⟩
theorem hd.tw3530705653197291679 : True := ⟨⟩
theorem hd.tw262745018181394680 : True := ⟨⟩
theorem hd.tw16904818350239718627 : True := ⟨⟩
theorem hd.tw9330823016148744750 : True := ⟨⟩
theorem hd.tw4282304852377368616 : True := ⟨⟩
theorem hd.tw16692772259055178886 : True := ⟨⟩
theorem hd.tw9013056391748086436 : True := ⟨⟩
theorem hd.tw13322179722446271537 : True := ⟨⟩
theorem hd.tw18041079901229458402 : True := ⟨⟩
theorem hd.tw11434409384045074295 : True := ⟨⟩
theorem hd.tw2371736936440567457 : True := ⟨⟩
theorem hd.tw1331487369976884630 : True := ⟨⟩
theorem hd.tw402640490398009360 : True := ⟨⟩
theorem hd.tw14991384322417631237 : True := ⟨⟩
theorem hd.tw2951005344575393816 : True := ⟨⟩
theorem hd.tw4946210868454251104 : True := ⟨⟩
theorem hd.tw8716120427605611371 : True := ⟨⟩
theorem hd.tw15837987909243819085 : True := ⟨⟩
theorem hd.tw8960069828448710407 : True := ⟨⟩
theorem hd.tw7120233287515763914 : True := ⟨⟩
theorem hd.tw12364972598781006883 : True := ⟨⟩
theorem hd.tw7763873220885509757 : True := ⟨⟩
theorem hd.tw5138769234217329475 : True := ⟨⟩
theorem hd.tw6882427118574961969 : True := ⟨⟩
theorem hd.tw2845679848157327705 : True := ⟨⟩
theorem hd.tw6276725880618359904 : True := ⟨⟩
theorem hd.tw991583007596301734 : True := ⟨⟩
theorem hd.tw11472165163037031739 : True := ⟨⟩
theorem hd.tw15279998641719260112 : True := ⟨⟩
theorem hd.tw17989097746536338734 : True := ⟨⟩
theorem hd.tw15102309248680683417 : True := ⟨⟩
theorem hd.tw5505005885091257285 : True := ⟨⟩
theorem hd.tw617508947420966582 : True := ⟨⟩
theorem hd.tw3364418463632694928 : True := ⟨⟩
theorem hd.tw16373647398549768009 : True := ⟨⟩
theorem hd.tw18293851220164018083 : True := ⟨⟩
theorem hd.tw3789350110615891812 : True := ⟨⟩
theorem hd.tw1936894748134917147 : True := ⟨⟩
theorem hd.tw7691918140598264929 : True := ⟨⟩
theorem hd.tw9631708518359487223 : True := ⟨⟩
theorem hd.tw16853252838358632063 : True := ⟨⟩
theorem hd.tw424627922949020093 : True := ⟨⟩
theorem hd.tw10788059911547816233 : True := ⟨⟩
theorem hd.tw4478166936697009375 : True := ⟨⟩
theorem hd.tw503842035214351869 : True := ⟨⟩
theorem hd.tw714852897916480489 : True := ⟨⟩
theorem hd.tw15048261121198461528 : True := ⟨⟩
theorem hd.tw1589133516308662214 : True := ⟨⟩
theorem hd.tw15643275761693703936 : True := ⟨⟩
theorem hd.tw10781468475247234061 : True := ⟨⟩
theorem hd.tw11749099774412794130 : True := ⟨⟩
theorem hd.tw5433107678231618845 : True := ⟨⟩
theorem hd.tw1781861727890032366 : True := ⟨⟩
theorem hd.tw11852641145169952659 : True := ⟨⟩
theorem hd.tw10210669037155785340 : True := ⟨⟩
theorem hd.tw13092906067662860646 : True := ⟨⟩
theorem hd.tw5174551420813472067 : True := ⟨⟩
theorem hd.tw15675198926951892251 : True := ⟨⟩
theorem hd.tw10314088207596747050 : True := ⟨⟩
theorem hd.tw573411949849455007 : True := ⟨⟩
theorem hd.tw9170477692918782315 : True := ⟨⟩
theorem hd.tw4478177076189095293 : True := ⟨⟩
theorem hd.tw18103342009636024947 : True := ⟨⟩
theorem hd.tw6136932545381038964 : True := ⟨⟩
theorem hd.tw692030841738120126 : True := ⟨⟩
theorem hd.tw16194383521188589630 : True := ⟨⟩
theorem hd.tw1699103778626983548 : True := ⟨⟩
theorem hd.tw432457690288141553 : True := ⟨⟩
theorem hd.tw1736311965527578767 : True := ⟨⟩
theorem hd.tw5177414187049929029 : True := ⟨⟩
theorem hd.tw189712035060473897 : True := ⟨⟩
theorem hd.tw12598724348716800887 : True := ⟨⟩
theorem hd.tw5574845727924001799 : True := ⟨⟩
theorem hd.tw9518435502879478352 : True := ⟨⟩
theorem hd.tw13220430256171166289 : True := ⟨⟩
theorem hd.tw17387473266821786944 : True := ⟨⟩
theorem hd.tw10933677585905718993 : True := ⟨⟩
theorem hd.tw9556091483467459545 : True := ⟨⟩
theorem hd.tw6123773746684550334 : True := ⟨⟩
theorem hd.tw1247026723315081023 : True := ⟨⟩
theorem hd.tw7068711184596962023 : True := ⟨⟩
theorem hd.tw4367231431732253908 : True := ⟨⟩
theorem hd.tw15591429051563716170 : True := ⟨⟩
theorem hd.tw13160604113216922460 : True := ⟨⟩
theorem hd.tw9719896912496429819 : True := ⟨⟩
theorem hd.tw5902613922787404954 : True := ⟨⟩
theorem hd.tw9908193460736022307 : True := ⟨⟩
theorem hd.tw14711139521213225765 : True := ⟨⟩
theorem hd.tw442638132926106271 : True := ⟨⟩
theorem hd.tw15969087562643684719 : True := ⟨⟩
theorem hd.tw6295535725891239091 : True := ⟨⟩
theorem hd.tw16919406825032445293 : True := ⟨⟩
theorem hd.tw12583169130044498743 : True := ⟨⟩
theorem hd.tw11115866451450875312 : True := ⟨⟩
theorem hd.tw102014493982917126 : True := ⟨⟩
theorem hd.tw825126770350376351 : True := ⟨⟩
theorem hd.tw10841399608879689956 : True := ⟨⟩
theorem hd.tw8210421348078903774 : True := ⟨⟩
theorem hd.tw17992873397187703194 : True := ⟨⟩
theorem hd.tw14205177575709318024 : True := ⟨⟩
theorem hd.tw9731375825926819010 : True := ⟨⟩
theorem hd.tw14567429538950270057 : True := ⟨⟩
theorem hd.tw1580110805410547442 : True := ⟨⟩
theorem hd.tw14743440263598761229 : True := ⟨⟩
theorem hd.tw2295870552580634182 : True := ⟨⟩
theorem hd.tw6957150274394394060 : True := ⟨⟩
theorem hd.tw10030107230732127627 : True := ⟨⟩
theorem hd.tw12949589719889679912 : True := ⟨⟩
theorem hd.tw9467313397243273497 : True := ⟨⟩
theorem hd.tw250903467453971090 : True := ⟨⟩
theorem hd.tw8268277133935991078 : True := ⟨⟩
theorem hd.tw18233516762306594366 : True := ⟨⟩
theorem hd.tw14955159897011116063 : True := ⟨⟩
theorem hd.tw15278966056882409248 : True := ⟨⟩
theorem hd.tw13172843250190940813 : True := ⟨⟩
theorem hd.tw4432475053497693458 : True := ⟨⟩
theorem hd.tw1033889070964956483 : True := ⟨⟩
theorem hd.tw8242931771332617035 : True := ⟨⟩
theorem hd.tw3419581819265744254 : True := ⟨⟩
theorem hd.tw2900905267640511130 : True := ⟨⟩
theorem hd.tw17347436560843906493 : True := ⟨⟩
theorem hd.tw10024716035694756283 : True := ⟨⟩
theorem hd.tw2422473601153944625 : True := ⟨⟩
theorem hd.tw3941438180925939637 : True := ⟨⟩
theorem hd.tw10404513684093684653 : True := ⟨⟩
theorem hd.tw7973550119107128859 : True := ⟨⟩
theorem hd.tw7076163891533521732 : True := ⟨⟩
theorem hd.tw10246146449241189800 : True := ⟨⟩
theorem hd.tw12642813592246648485 : True := ⟨⟩
theorem hd.tw5167245352685981253 : True := ⟨⟩
theorem hd.tw10849272910044215975 : True := ⟨⟩
theorem hd.tw2450686747263038406 : True := ⟨⟩
theorem hd.tw11052946933831473538 : True := ⟨⟩
theorem hd.tw9262713555522148398 : True := ⟨⟩
theorem hd.tw4948343613671549106 : True := ⟨⟩
theorem hd.tw5505332120971382143 : True := ⟨⟩
theorem hd.tw5983496337302601536 : True := ⟨⟩
theorem hd.tw3533295568840377906 : True := ⟨⟩
theorem hd.tw16259696140248634718 : True := ⟨⟩
theorem hd.tw9291183231760945099 : True := ⟨⟩
theorem hd.tw5206456813468324048 : True := ⟨⟩
theorem hd.tw12590977762386282803 : True := ⟨⟩
theorem hd.tw15089522573102190283 : True := ⟨⟩
theorem hd.tw14683707025165767436 : True := ⟨⟩
theorem hd.tw9748044761591592747 : True := ⟨⟩
theorem hd.tw15924899543223041283 : True := ⟨⟩
theorem hd.tw6506366617586733335 : True := ⟨⟩
theorem hd.tw16154546982801380032 : True := ⟨⟩
theorem hd.tw10292235466723388172 : True := ⟨⟩
theorem hd.tw10286656452748174568 : True := ⟨⟩
theorem hd.tw11024222330075796079 : True := ⟨⟩
theorem hd.tw17895171251205151618 : True := ⟨⟩
theorem hd.tw11513968764499736323 : True := ⟨⟩
theorem hd.tw212345690472687942 : True := ⟨⟩
theorem hd.tw16299908979028503884 : True := ⟨⟩
theorem hd.tw1359830224848277088 : True := ⟨⟩
theorem hd.tw2063697594609225973 : True := ⟨⟩
theorem hd.tw11079593142295127227 : True := ⟨⟩
theorem hd.tw37099724090138251 : True := ⟨⟩
theorem hd.tw11054480109507316185 : True := ⟨⟩
theorem hd.tw11631947586910100387 : True := ⟨⟩
theorem hd.tw9864973744126774698 : True := ⟨⟩
theorem hd.tw14560493823538711346 : True := ⟨⟩
theorem hd.tw2386827423013361158 : True := ⟨⟩
theorem hd.tw11595982170579460384 : True := ⟨⟩
theorem hd.tw5480042469492414594 : True := ⟨⟩
theorem hd.tw9060266659832965230 : True := ⟨⟩
theorem hd.tw10763509664835889504 : True := ⟨⟩
theorem hd.tw6627881031435992008 : True := ⟨⟩
theorem hd.tw13747817723492736564 : True := ⟨⟩
theorem hd.tw17442440038993205814 : True := ⟨⟩
theorem hd.tw16634568088961857937 : True := ⟨⟩
theorem hd.tw9398405308114057262 : True := ⟨⟩
theorem hd.tw5388632664720090651 : True := ⟨⟩
theorem hd.tw7174315439194531881 : True := ⟨⟩
theorem hd.tw5629675986466331604 : True := ⟨⟩
theorem hd.tw13790719812936386609 : True := ⟨⟩
theorem hd.tw6164396464334811476 : True := ⟨⟩
theorem hd.tw18245042118932799458 : True := ⟨⟩
theorem hd.tw16744898341101239380 : True := ⟨⟩
theorem hd.tw10919297434634762262 : True := ⟨⟩
theorem hd.tw2315301623876862497 : True := ⟨⟩
theorem hd.tw2101469004524951375 : True := ⟨⟩
theorem hd.tw7240586211207864342 : True := ⟨⟩
theorem hd.tw10847404155465417027 : True := ⟨⟩
theorem hd.tw1870067075039425230 : True := ⟨⟩
theorem hd.tw7872162285098387286 : True := ⟨⟩
theorem hd.tw656455966557771466 : True := ⟨⟩
theorem hd.tw14438451200097066615 : True := ⟨⟩
theorem hd.tw15615537253650120727 : True := ⟨⟩
theorem hd.tw15199589371867527261 : True := ⟨⟩
theorem hd.tw6469175993241445255 : True := ⟨⟩
theorem hd.tw7598622570094877466 : True := ⟨⟩
theorem hd.tw4282359134580295075 : True := ⟨⟩
theorem hd.tw9976723597467198900 : True := ⟨⟩
theorem hd.tw15207398651663016943 : True := ⟨⟩
theorem hd.tw8934143017859847078 : True := ⟨⟩
theorem hd.tw6014424301940151174 : True := ⟨⟩
theorem hd.tw8025032847418708242 : True := ⟨⟩
theorem hd.tw12575139184659369484 : True := ⟨⟩
theorem hd.tw6184208073178115725 : True := ⟨⟩
theorem hd.tw11814627755841444246 : True := ⟨⟩
theorem hd.tw3350930974749635488 : True := ⟨⟩
theorem hd.tw1013155817946168525 : True := ⟨⟩
theorem hd.tw1836080755315867724 : True := ⟨⟩
theorem hd.tw908340440784498289 : True := ⟨⟩
theorem hd.tw17330945745186091897 : True := ⟨⟩
theorem hd.tw12861998865439983172 : True := ⟨⟩
theorem hd.tw14137390275340422267 : True := ⟨⟩
theorem hd.tw1409312971732116557 : True := ⟨⟩
theorem hd.tw16970440968685349367 : True := ⟨⟩
theorem hd.tw4870687313549177768 : True := ⟨⟩
theorem hd.tw8293946417935249925 : True := ⟨⟩
theorem hd.tw14120982254508448379 : True := ⟨⟩
theorem hd.tw1666387254794493845 : True := ⟨⟩
theorem hd.tw12350410155528471161 : True := ⟨⟩
theorem hd.tw1011335219593555734 : True := ⟨⟩
theorem hd.tw243823211424636713 : True := ⟨⟩
theorem hd.tw13347369733751428629 : True := ⟨⟩
theorem hd.tw5899666649113621702 : True := ⟨⟩
theorem hd.tw4778742480866408670 : True := ⟨⟩
theorem hd.tw6683769817339685419 : True := ⟨⟩
theorem hd.tw4833718069199227053 : True := ⟨⟩
theorem hd.tw162610821266807592 : True := ⟨⟩
theorem hd.tw7006195865600381663 : True := ⟨⟩
theorem hd.tw1939978651307754801 : True := ⟨⟩
theorem hd.tw12659318050587179527 : True := ⟨⟩
theorem hd.tw1954109241102656831 : True := ⟨⟩
theorem hd.tw8609351116199087170 : True := ⟨⟩
theorem hd.tw6965799899956892507 : True := ⟨⟩
theorem hd.tw16866669024345736564 : True := ⟨⟩
theorem hd.tw10834780440838970164 : True := ⟨⟩
theorem hd.tw4909881369870891365 : True := ⟨⟩
theorem hd.tw18093812233618175256 : True := ⟨⟩
theorem hd.tw12399718760709695909 : True := ⟨⟩
theorem hd.tw15001097145646765096 : True := ⟨⟩
theorem hd.tw8156189417125526548 : True := ⟨⟩
theorem hd.tw18205439006774131303 : True := ⟨⟩
theorem hd.tw13409441903868389331 : True := ⟨⟩
theorem hd.tw6769732088879122475 : True := ⟨⟩
theorem hd.tw5054737718236178183 : True := ⟨⟩
theorem hd.tw16732651252451853232 : True := ⟨⟩
theorem hd.tw14678209027938369040 : True := ⟨⟩
theorem hd.tw9763420282994701918 : True := ⟨⟩
theorem hd.tw8795416741894971585 : True := ⟨⟩
theorem hd.tw4360684699965382250 : True := ⟨⟩
theorem hd.tw9155422001095189878 : True := ⟨⟩
theorem hd.tw12778418089203562962 : True := ⟨⟩
theorem hd.tw8735263284916673568 : True := ⟨⟩
theorem hd.tw1717729237380139383 : True := ⟨⟩
theorem hd.tw11119798521548139033 : True := ⟨⟩
theorem hd.tw17893044597097874663 : True := ⟨⟩
theorem hd.tw11032806212648032379 : True := ⟨⟩
theorem hd.tw14906377314874228009 : True := ⟨⟩
theorem hd.tw15042006015671813226 : True := ⟨⟩
theorem hd.tw6931407450589930559 : True := ⟨⟩
theorem hd.tw14135609715661531928 : True := ⟨⟩
theorem hd.tw8112040973832200146 : True := ⟨⟩
theorem hd.tw15910714762333108613 : True := ⟨⟩
theorem hd.tw257007361410690125 : True := ⟨⟩
theorem hd.tw16640546478005224243 : True := ⟨⟩
theorem hd.tw8312999807965096350 : True := ⟨⟩
theorem hd.tw17491317419825422843 : True := ⟨⟩
theorem hd.tw3452591251010201329 : True := ⟨⟩
theorem hd.tw18343703819029505601 : True := ⟨⟩
theorem hd.tw16694946328126371552 : True := ⟨⟩
theorem hd.tw17681399029576232318 : True := ⟨⟩
theorem hd.tw18152756486534528934 : True := ⟨⟩
theorem hd.tw16156708551869547534 : True := ⟨⟩
theorem hd.tw7640094616464845771 : True := ⟨⟩
theorem hd.tw12940713784782232206 : True := ⟨⟩
theorem hd.tw2930668341846507884 : True := ⟨⟩
theorem hd.tw689954013368505116 : True := ⟨⟩
theorem hd.tw13783031573616600631 : True := ⟨⟩
theorem hd.tw12900700647772717614 : True := ⟨⟩
theorem hd.tw14328484209623677503 : True := ⟨⟩
theorem hd.tw15220180469806662145 : True := ⟨⟩
theorem hd.tw15074197538484233485 : True := ⟨⟩
theorem hd.tw3484992998616243462 : True := ⟨⟩
theorem hd.tw7023726343779634624 : True := ⟨⟩
theorem hd.tw1331086792558400476 : True := ⟨⟩
theorem hd.tw16178712458983371728 : True := ⟨⟩
theorem hd.tw7152984921513172624 : True := ⟨⟩
theorem hd.tw13315533130655954831 : True := ⟨⟩
theorem hd.tw7880807054014371918 : True := ⟨⟩
theorem hd.tw7270182246851987180 : True := ⟨⟩
theorem hd.tw3309697970292668127 : True := ⟨⟩
theorem hd.tw12614811148066621264 : True := ⟨⟩
theorem hd.tw14706022693812145444 : True := ⟨⟩
theorem hd.tw13289513938125300765 : True := ⟨⟩
theorem hd.tw9854592784775465947 : True := ⟨⟩
theorem hd.tw12127338746724423809 : True := ⟨⟩
theorem hd.tw4210835263042620578 : True := ⟨⟩
theorem hd.tw3418235910006150233 : True := ⟨⟩
theorem hd.tw6140570298594658328 : True := ⟨⟩
theorem hd.tw9741134391959003819 : True := ⟨⟩
theorem hd.tw11984409736253958808 : True := ⟨⟩
theorem hd.tw9430667961914135727 : True := ⟨⟩
theorem hd.tw1820180628909398317 : True := ⟨⟩
theorem hd.tw9496365245306024149 : True := ⟨⟩
theorem hd.tw15992342658441690333 : True := ⟨⟩
theorem hd.tw14553816603554493358 : True := ⟨⟩
theorem hd.tw16661405048812198066 : True := ⟨⟩
theorem hd.tw5009564483982726761 : True := ⟨⟩
theorem hd.tw4383666589626881386 : True := ⟨⟩
theorem hd.tw17234923516513369237 : True := ⟨⟩
theorem hd.tw10949625832625181284 : True := ⟨⟩
theorem hd.tw8479784124755550697 : True := ⟨⟩
theorem hd.tw1976262728313527643 : True := ⟨⟩
theorem hd.tw16414904818172857274 : True := ⟨⟩
theorem hd.tw17696971302532935780 : True := ⟨⟩
theorem hd.tw11709330566771433103 : True := ⟨⟩
theorem hd.tw2480057099694739299 : True := ⟨⟩
theorem hd.tw15152743547302097792 : True := ⟨⟩
theorem hd.tw10283529075043463162 : True := ⟨⟩
theorem hd.tw5976792059365374437 : True := ⟨⟩
theorem hd.tw5535567543195554156 : True := ⟨⟩
theorem hd.tw3940546777539579641 : True := ⟨⟩
theorem hd.tw12070654863422294720 : True := ⟨⟩
theorem hd.tw5657824000916062451 : True := ⟨⟩
theorem hd.tw9406673726873002282 : True := ⟨⟩
theorem hd.tw16122263528239426037 : True := ⟨⟩
theorem hd.tw5608270528595127837 : True := ⟨⟩
theorem hd.tw867598499069673859 : True := ⟨⟩
theorem hd.tw4878824753759274627 : True := ⟨⟩
theorem hd.tw16713699803418581334 : True := ⟨⟩
theorem hd.tw6411954120941647267 : True := ⟨⟩
theorem hd.tw15625209780758371316 : True := ⟨⟩
theorem hd.tw2001351230973187099 : True := ⟨⟩
theorem hd.tw17649441919526076750 : True := ⟨⟩
theorem hd.tw8516288146210602744 : True := ⟨⟩
theorem hd.tw1527624580187611598 : True := ⟨⟩
theorem hd.tw3478764184967624034 : True := ⟨⟩
theorem hd.tw14168552714766633299 : True := ⟨⟩
theorem hd.tw15634565183472343292 : True := ⟨⟩
theorem hd.tw2578790182627478330 : True := ⟨⟩
theorem hd.tw10792051664901133789 : True := ⟨⟩
theorem hd.tw16759147789766475008 : True := ⟨⟩
theorem hd.tw2391449824757734642 : True := ⟨⟩
theorem hd.tw313027258313007627 : True := ⟨⟩
theorem hd.tw16896567674234606475 : True := ⟨⟩
theorem hd.tw6785817131721698500 : True := ⟨⟩
theorem hd.tw4100727469477534972 : True := ⟨⟩
theorem hd.tw17258206423299326598 : True := ⟨⟩
theorem hd.tw5387394851084113601 : True := ⟨⟩
theorem hd.tw15416985209724490359 : True := ⟨⟩
theorem hd.tw6308581086252854402 : True := ⟨⟩
theorem hd.tw12900809124289342914 : True := ⟨⟩
theorem hd.tw12676414471582705871 : True := ⟨⟩
theorem hd.tw3442329435671937591 : True := ⟨⟩
theorem hd.tw10117440562283002822 : True := ⟨⟩
theorem hd.tw9298403506768410418 : True := ⟨⟩
theorem hd.tw6412770499399676944 : True := ⟨⟩
theorem hd.tw12070051907170230399 : True := ⟨⟩
theorem hd.tw11256106856564762260 : True := ⟨⟩
theorem hd.tw16409295683739894939 : True := ⟨⟩
theorem hd.tw9499510787657705874 : True := ⟨⟩
theorem hd.tw11232374478483605306 : True := ⟨⟩
theorem hd.tw3816877163431070358 : True := ⟨⟩
theorem hd.tw17562767543260142214 : True := ⟨⟩
theorem hd.tw7261450039545342454 : True := ⟨⟩
theorem hd.tw10376703724636587151 : True := ⟨⟩
theorem hd.tw9990345226319884068 : True := ⟨⟩
theorem hd.tw10860895700388868024 : True := ⟨⟩
theorem hd.tw7317836474542784337 : True := ⟨⟩
theorem hd.tw9345676750909349944 : True := ⟨⟩
theorem hd.tw546821695630378048 : True := ⟨⟩
theorem hd.tw11587034568685482758 : True := ⟨⟩
theorem hd.tw16211521421427940678 : True := ⟨⟩
theorem hd.tw2442259710966052079 : True := ⟨⟩
theorem hd.tw9299267367459917385 : True := ⟨⟩
theorem hd.tw2603259988358896889 : True := ⟨⟩
theorem hd.tw14029546391885035639 : True := ⟨⟩
theorem hd.tw10947534242169238906 : True := ⟨⟩
theorem hd.tw2999033326186475339 : True := ⟨⟩
theorem hd.tw497014784833753810 : True := ⟨⟩
theorem hd.tw8664936974563722654 : True := ⟨⟩
theorem hd.tw3069179008743571320 : True := ⟨⟩
theorem hd.tw185848376630758926 : True := ⟨⟩
theorem hd.tw16052320808349706082 : True := ⟨⟩
theorem hd.tw17843490464661113860 : True := ⟨⟩
theorem hd.tw17714235663813219645 : True := ⟨⟩
theorem hd.tw5366084841770067474 : True := ⟨⟩
theorem hd.tw1330954286162103480 : True := ⟨⟩
theorem hd.tw6819212343860736726 : True := ⟨⟩
theorem hd.tw8789358453043137523 : True := ⟨⟩
theorem hd.tw14745743045033390146 : True := ⟨⟩
theorem hd.tw16547865195752855329 : True := ⟨⟩
theorem hd.tw17066044127408595049 : True := ⟨⟩
theorem hd.tw1256466517863071783 : True := ⟨⟩
theorem hd.tw4315991029959535628 : True := ⟨⟩
theorem hd.tw10614716105012338702 : True := ⟨⟩
theorem hd.tw9850052858527491113 : True := ⟨⟩
theorem hd.tw15923250282426842828 : True := ⟨⟩
theorem hd.tw14444963742821833902 : True := ⟨⟩
theorem hd.tw4021928978595405253 : True := ⟨⟩
theorem hd.tw1800889605409440832 : True := ⟨⟩
theorem hd.tw4310969922304039945 : True := ⟨⟩
theorem hd.tw8990313861142287110 : True := ⟨⟩
theorem hd.tw7339039647409124788 : True := ⟨⟩
theorem hd.tw13096558090100123544 : True := ⟨⟩
theorem hd.tw1005483496087919985 : True := ⟨⟩
theorem hd.tw17679848547673146604 : True := ⟨⟩
theorem hd.tw7153062008950511462 : True := ⟨⟩
theorem hd.tw13937860266046166849 : True := ⟨⟩
theorem hd.tw1097998534492414930 : True := ⟨⟩
theorem hd.tw10465514089279642386 : True := ⟨⟩
theorem hd.tw5036846961687405229 : True := ⟨⟩
theorem hd.tw8134915037123179040 : True := ⟨⟩
theorem hd.tw845060206244984605 : True := ⟨⟩
theorem hd.tw3044193314922437478 : True := ⟨⟩
theorem hd.tw4730091804998409952 : True := ⟨⟩
theorem hd.tw1728934660973012959 : True := ⟨⟩
theorem hd.tw2139204274930982770 : True := ⟨⟩
theorem hd.tw2855845756224970109 : True := ⟨⟩
theorem hd.tw17903497710992402801 : True := ⟨⟩
theorem hd.tw10365702040365258594 : True := ⟨⟩
theorem hd.tw6052482589124101219 : True := ⟨⟩
theorem hd.tw13929354066492186541 : True := ⟨⟩
theorem hd.tw10934634478434655930 : True := ⟨⟩
theorem hd.tw14151535006965253332 : True := ⟨⟩
theorem hd.tw9345929723534960622 : True := ⟨⟩
theorem hd.tw16717124610585707100 : True := ⟨⟩
theorem hd.tw14462709497994964445 : True := ⟨⟩
theorem hd.tw3919010098100093602 : True := ⟨⟩
theorem hd.tw6449127861642672459 : True := ⟨⟩
theorem hd.tw7839823952615728111 : True := ⟨⟩
theorem hd.tw17948085552500728524 : True := ⟨⟩
theorem hd.tw12487542160262675636 : True := ⟨⟩
theorem hd.tw15064902949301533346 : True := ⟨⟩
theorem hd.tw5118731587858937692 : True := ⟨⟩
theorem hd.tw5416991563250132298 : True := ⟨⟩
theorem hd.tw10819331528351526247 : True := ⟨⟩
theorem hd.tw11389486352061984695 : True := ⟨⟩
theorem hd.tw561391293025646643 : True := ⟨⟩
theorem hd.tw14776966858535155947 : True := ⟨⟩
theorem hd.tw6877226645827823821 : True := ⟨⟩
theorem hd.tw4074112789689628901 : True := ⟨⟩
theorem hd.tw1760603350576429475 : True := ⟨⟩
theorem hd.tw3008623586974134963 : True := ⟨⟩
theorem hd.tw18321552122766947510 : True := ⟨⟩
theorem hd.tw16920754564084929960 : True := ⟨⟩
theorem hd.tw519851828213033955 : True := ⟨⟩
theorem hd.tw9617658007855726926 : True := ⟨⟩
theorem hd.tw4819202231147424091 : True := ⟨⟩
theorem hd.tw7829580234814923638 : True := ⟨⟩
theorem hd.tw17975533764899295144 : True := ⟨⟩
theorem hd.tw6804821044290156842 : True := ⟨⟩
theorem hd.tw4111692666942324129 : True := ⟨⟩
theorem hd.tw3536873572635521401 : True := ⟨⟩
theorem hd.tw9330943631129107780 : True := ⟨⟩
theorem hd.tw13011413612017729677 : True := ⟨⟩
theorem hd.tw13321331477185743149 : True := ⟨⟩
theorem hd.tw13893168526513508166 : True := ⟨⟩
theorem hd.tw12447509897640257713 : True := ⟨⟩
theorem hd.tw13363553139645760527 : True := ⟨⟩
theorem hd.tw15946356160694317329 : True := ⟨⟩
theorem hd.tw844454113641010441 : True := ⟨⟩
theorem hd.tw8244733829118024811 : True := ⟨⟩
theorem hd.tw17336936450418997793 : True := ⟨⟩
theorem hd.tw13122850982685727845 : True := ⟨⟩
theorem hd.tw6759412095888398321 : True := ⟨⟩
theorem hd.tw4402725079659364252 : True := ⟨⟩
theorem hd.tw1600037746751723098 : True := ⟨⟩
theorem hd.tw15213948185873263833 : True := ⟨⟩
theorem hd.tw500953250457666378 : True := ⟨⟩
theorem hd.tw567884609423149705 : True := ⟨⟩
theorem hd.tw8226494294326810461 : True := ⟨⟩
theorem hd.tw16587392273704687506 : True := ⟨⟩
theorem hd.tw17795420018806894357 : True := ⟨⟩
theorem hd.tw5482205457738058418 : True := ⟨⟩
theorem hd.tw11251137523995926341 : True := ⟨⟩
theorem hd.tw5021546742003373373 : True := ⟨⟩
theorem hd.tw17739348878880393726 : True := ⟨⟩
theorem hd.tw5810065557313606291 : True := ⟨⟩
theorem hd.tw13770079208771991547 : True := ⟨⟩
theorem hd.tw11319892378374348655 : True := ⟨⟩
theorem hd.tw7289601568589263668 : True := ⟨⟩
theorem hd.tw15790720579355451973 : True := ⟨⟩
theorem hd.tw3911173418732280352 : True := ⟨⟩
theorem hd.tw1643121930917553208 : True := ⟨⟩
theorem hd.tw3452082135128663414 : True := ⟨⟩
theorem hd.tw2042292140826266357 : True := ⟨⟩
theorem hd.tw728884934406724761 : True := ⟨⟩
theorem hd.tw13628142620392400109 : True := ⟨⟩
theorem hd.tw12611767792052310623 : True := ⟨⟩
theorem hd.tw15687388767607454252 : True := ⟨⟩
theorem hd.tw833173182276230429 : True := ⟨⟩
theorem hd.tw17606422857730326317 : True := ⟨⟩
theorem hd.tw16684818696116721337 : True := ⟨⟩
theorem hd.tw9555612238305686254 : True := ⟨⟩
theorem hd.tw6418103052136555383 : True := ⟨⟩
theorem hd.tw7492773218913965947 : True := ⟨⟩
theorem hd.tw2051048951616859547 : True := ⟨⟩
theorem hd.tw1335065189686863947 : True := ⟨⟩
theorem hd.tw3196399650302076718 : True := ⟨⟩
theorem hd.tw13368278939475635651 : True := ⟨⟩
theorem hd.tw11465210709893060100 : True := ⟨⟩
theorem hd.tw17330132731328240911 : True := ⟨⟩
theorem hd.tw16029623286316568529 : True := ⟨⟩
theorem hd.tw18358800413957953924 : True := ⟨⟩
theorem hd.tw155142512498542641 : True := ⟨⟩
theorem hd.tw13606922415975196911 : True := ⟨⟩
theorem hd.tw9459050058782445324 : True := ⟨⟩
theorem hd.tw3451239065008710300 : True := ⟨⟩
theorem hd.tw15344866539931968096 : True := ⟨⟩
theorem hd.tw12704988097186499811 : True := ⟨⟩
theorem hd.tw18291419657060728153 : True := ⟨⟩
theorem hd.tw11319097763535126812 : True := ⟨⟩
theorem hd.tw11228292238239915703 : True := ⟨⟩
theorem hd.tw6824622198901579176 : True := ⟨⟩
theorem hd.tw15759970867653108152 : True := ⟨⟩
theorem hd.tw6407587892757256292 : True := ⟨⟩
theorem hd.tw439843181053141970 : True := ⟨⟩
theorem hd.tw8184699220007379433 : True := ⟨⟩
theorem hd.tw6213412439835118660 : True := ⟨⟩
theorem hd.tw4086058157674990017 : True := ⟨⟩
theorem hd.tw15033227074091944939 : True := ⟨⟩
theorem hd.tw14446474709323646786 : True := ⟨⟩
theorem hd.tw3333446698644548216 : True := ⟨⟩
theorem hd.tw12521463284412890351 : True := ⟨⟩
theorem hd.tw4958948430592982816 : True := ⟨⟩
theorem hd.tw395138700845864316 : True := ⟨⟩
theorem hd.tw2598446214317162929 : True := ⟨⟩
theorem hd.tw17429513623812275283 : True := ⟨⟩
theorem hd.tw10905682514733158466 : True := ⟨⟩
theorem hd.tw7494724483528729301 : True := ⟨⟩
theorem hd.tw242841246431481386 : True := ⟨⟩
theorem hd.tw8472141830624432390 : True := ⟨⟩
theorem hd.tw13132618709999183898 : True := ⟨⟩
theorem hd.tw3878383114103592795 : True := ⟨⟩
theorem hd.tw4159134105002834734 : True := ⟨⟩
theorem hd.tw4363365295628954845 : True := ⟨⟩
theorem hd.tw10102539355485613405 : True := ⟨⟩
theorem hd.tw9228397985900620932 : True := ⟨⟩
theorem hd.tw7031273417212677730 : True := ⟨⟩
theorem hd.tw3810627165162067908 : True := ⟨⟩
theorem hd.tw8457440626546761165 : True := ⟨⟩
theorem hd.tw6082411064634330575 : True := ⟨⟩
theorem hd.tw2799067240506288376 : True := ⟨⟩
theorem hd.tw9566141503761928105 : True := ⟨⟩
theorem hd.tw16157073509204512506 : True := ⟨⟩
theorem hd.tw13531707123254989501 : True := ⟨⟩
theorem hd.tw18421049791903953903 : True := ⟨⟩
theorem hd.tw14984183105004643987 : True := ⟨⟩
theorem hd.tw15529170255622000948 : True := ⟨⟩
theorem hd.tw4642405928176397000 : True := ⟨⟩
theorem hd.tw7489763959799892387 : True := ⟨⟩
theorem hd.tw15946388913382835224 : True := ⟨⟩
theorem hd.tw13181700845877081190 : True := ⟨⟩
theorem hd.tw10558106933452604415 : True := ⟨⟩
theorem hd.tw16345102440705955213 : True := ⟨⟩
theorem hd.tw12647368939536790636 : True := ⟨⟩
theorem hd.tw18131696352309475102 : True := ⟨⟩
theorem hd.tw5378308252288859171 : True := ⟨⟩
theorem hd.tw1197925565968671727 : True := ⟨⟩
theorem hd.tw11968265576560266318 : True := ⟨⟩
theorem hd.tw15673258824015622330 : True := ⟨⟩
theorem hd.tw17925215291927510665 : True := ⟨⟩
theorem hd.tw11629707937479629763 : True := ⟨⟩
theorem hd.tw8273930003744585626 : True := ⟨⟩
theorem hd.tw10258225898301398825 : True := ⟨⟩
theorem hd.tw11754176132448286083 : True := ⟨⟩
theorem hd.tw18103420901670897651 : True := ⟨⟩
theorem hd.tw13753220567063992666 : True := ⟨⟩
theorem hd.tw3493717111155160527 : True := ⟨⟩
theorem hd.tw12994019391074448376 : True := ⟨⟩
theorem hd.tw8197050154876552520 : True := ⟨⟩
theorem hd.tw3241458686731973266 : True := ⟨⟩
theorem hd.tw12211380539166087753 : True := ⟨⟩
theorem hd.tw956962677268122417 : True := ⟨⟩
theorem hd.tw22551697357593593 : True := ⟨⟩
theorem hd.tw13671756088133313087 : True := ⟨⟩
theorem hd.tw5850991567925798318 : True := ⟨⟩
theorem hd.tw15578025631644234493 : True := ⟨⟩
theorem hd.tw3795277891434052102 : True := ⟨⟩
theorem hd.tw6291416237084387574 : True := ⟨⟩
theorem hd.tw18176940659606848779 : True := ⟨⟩
theorem hd.tw10114223749520855954 : True := ⟨⟩
theorem hd.tw18268791191939849864 : True := ⟨⟩
theorem hd.tw16639802674150441104 : True := ⟨⟩
theorem hd.tw18235018827726667335 : True := ⟨⟩
theorem hd.tw15337868472472888810 : True := ⟨⟩
theorem hd.tw8881176148764397765 : True := ⟨⟩
theorem hd.tw7525542149764818722 : True := ⟨⟩
theorem hd.tw6868836192036940282 : True := ⟨⟩
theorem hd.tw5549315172176941698 : True := ⟨⟩
theorem hd.tw13365295217650922812 : True := ⟨⟩
theorem hd.tw1603739661141634737 : True := ⟨⟩
theorem hd.tw8683856772340465682 : True := ⟨⟩
theorem hd.tw7534799579077118603 : True := ⟨⟩
theorem hd.tw2042874687063273074 : True := ⟨⟩
theorem hd.tw6547078798241139092 : True := ⟨⟩
theorem hd.tw18163647496604598072 : True := ⟨⟩
theorem hd.tw9533747618267967006 : True := ⟨⟩
theorem hd.tw13475242022060392486 : True := ⟨⟩
theorem hd.tw7355570028127101125 : True := ⟨⟩
theorem hd.tw15084132493965779093 : True := ⟨⟩
theorem hd.tw8324504678176258764 : True := ⟨⟩
theorem hd.tw6767318904944593275 : True := ⟨⟩
theorem hd.tw10601615944963115059 : True := ⟨⟩
theorem hd.tw7296583596125217682 : True := ⟨⟩
theorem hd.tw10678649693572172417 : True := ⟨⟩
theorem hd.tw12268275109542032366 : True := ⟨⟩
theorem hd.tw11778180911958503814 : True := ⟨⟩
theorem hd.tw7144693031159200931 : True := ⟨⟩
theorem hd.tw12727495553239364174 : True := ⟨⟩
theorem hd.tw7550026187429638027 : True := ⟨⟩
theorem hd.tw14478148883734587675 : True := ⟨⟩
theorem hd.tw12886791399504256577 : True := ⟨⟩
theorem hd.tw4626208715939980372 : True := ⟨⟩
theorem hd.tw9813410681712176819 : True := ⟨⟩
theorem hd.tw8179070454071193570 : True := ⟨⟩
theorem hd.tw5667655126489319660 : True := ⟨⟩
theorem hd.tw541196102884509978 : True := ⟨⟩
theorem hd.tw16641143254114907239 : True := ⟨⟩
theorem hd.tw3646829019195819677 : True := ⟨⟩
theorem hd.tw4971549296188076032 : True := ⟨⟩
theorem hd.tw17177331786930743035 : True := ⟨⟩
theorem hd.tw1632911306035174240 : True := ⟨⟩
theorem hd.tw758273949599710562 : True := ⟨⟩
theorem hd.tw7289634563603522867 : True := ⟨⟩
theorem hd.tw6115762422951442106 : True := ⟨⟩
theorem hd.tw1792636949448641307 : True := ⟨⟩
theorem hd.tw16698745307106531279 : True := ⟨⟩
theorem hd.tw14612060388864693735 : True := ⟨⟩
theorem hd.tw17252143746492648416 : True := ⟨⟩
theorem hd.tw17377529257436501650 : True := ⟨⟩
theorem hd.tw17001982702790524580 : True := ⟨⟩
theorem hd.tw2562236817408797766 : True := ⟨⟩
theorem hd.tw17876089906941426215 : True := ⟨⟩
theorem hd.tw13217827037086042188 : True := ⟨⟩
theorem hd.tw6184460063843016694 : True := ⟨⟩
theorem hd.tw1582976572388173787 : True := ⟨⟩
theorem hd.tw14457593812595234344 : True := ⟨⟩
theorem hd.tw8931695957890008076 : True := ⟨⟩
theorem hd.tw1885274449108297399 : True := ⟨⟩
theorem hd.tw4780371949962762201 : True := ⟨⟩
theorem hd.tw12870888531099404533 : True := ⟨⟩
theorem hd.tw15610959940260225430 : True := ⟨⟩
theorem hd.tw16376525773666504680 : True := ⟨⟩
theorem hd.tw2323474266016966308 : True := ⟨⟩
theorem hd.tw6320253292602491972 : True := ⟨⟩
theorem hd.tw3887682987991473952 : True := ⟨⟩
theorem hd.tw1147470481896660410 : True := ⟨⟩
theorem hd.tw3673020696563887462 : True := ⟨⟩
theorem hd.tw7578210074245671484 : True := ⟨⟩
theorem hd.tw6264232113106981867 : True := ⟨⟩
theorem hd.tw3660579746685279459 : True := ⟨⟩
theorem hd.tw4702841417184801058 : True := ⟨⟩
theorem hd.tw10258978556261792354 : True := ⟨⟩
theorem hd.tw2739504486584576224 : True := ⟨⟩
theorem hd.tw3386092968808520798 : True := ⟨⟩
theorem hd.tw940617070666608080 : True := ⟨⟩
theorem hd.tw15367242080415987702 : True := ⟨⟩
theorem hd.tw11136197038861592535 : True := ⟨⟩
theorem hd.tw18293732401869909652 : True := ⟨⟩
theorem hd.tw7191455744419660376 : True := ⟨⟩
theorem hd.tw11660266114150955751 : True := ⟨⟩
theorem hd.tw3704167492566942397 : True := ⟨⟩
theorem hd.tw5247051413645994129 : True := ⟨⟩
theorem hd.tw3496965988886986938 : True := ⟨⟩
theorem hd.tw1557243174674812401 : True := ⟨⟩
theorem hd.tw6442067068224118133 : True := ⟨⟩
theorem hd.tw1379335367625716243 : True := ⟨⟩
theorem hd.tw16477043939570097188 : True := ⟨⟩
theorem hd.tw7712595579559962911 : True := ⟨⟩
theorem hd.tw16171809288044610508 : True := ⟨⟩
theorem hd.tw15615420239508185596 : True := ⟨⟩
theorem hd.tw10603584201595350602 : True := ⟨⟩
theorem hd.tw3229955645248102723 : True := ⟨⟩
theorem hd.tw15948780112781908787 : True := ⟨⟩
theorem hd.tw17992175057805443440 : True := ⟨⟩
theorem hd.tw14980023328507725902 : True := ⟨⟩
theorem hd.tw8317466277049474617 : True := ⟨⟩
theorem hd.tw12602439190401603521 : True := ⟨⟩
theorem hd.tw13051953538815563581 : True := ⟨⟩
theorem hd.tw16711616764599604094 : True := ⟨⟩
theorem hd.tw10845626234925267891 : True := ⟨⟩
theorem hd.tw9449672872311958731 : True := ⟨⟩
theorem hd.tw11151547217846952531 : True := ⟨⟩
theorem hd.tw2887051446865420828 : True := ⟨⟩
theorem hd.tw1051681510052472703 : True := ⟨⟩
theorem hd.tw3608708970678896270 : True := ⟨⟩
theorem hd.tw11905163887095721015 : True := ⟨⟩
theorem hd.tw3132252637357597028 : True := ⟨⟩
theorem hd.tw2068664650715991707 : True := ⟨⟩
theorem hd.tw4788038989552484473 : True := ⟨⟩
theorem hd.tw1241404454085649124 : True := ⟨⟩
theorem hd.tw8990031805342692484 : True := ⟨⟩
theorem hd.tw2329189449893159454 : True := ⟨⟩
theorem hd.tw14060237666301923597 : True := ⟨⟩
theorem hd.tw2788664435532181463 : True := ⟨⟩
theorem hd.tw10778257442750969130 : True := ⟨⟩
theorem hd.tw2489000522355961661 : True := ⟨⟩
theorem hd.tw9215163618515126356 : True := ⟨⟩
theorem hd.tw10988662585949334943 : True := ⟨⟩
theorem hd.tw5190246844813560578 : True := ⟨⟩
theorem hd.tw14439243815434019604 : True := ⟨⟩
theorem hd.tw7184745663730752293 : True := ⟨⟩
theorem hd.tw17956543221229664512 : True := ⟨⟩
theorem hd.tw15856727013471470956 : True := ⟨⟩
theorem hd.tw14852329139284432860 : True := ⟨⟩
theorem hd.tw7372000682148998216 : True := ⟨⟩
theorem hd.tw14103535550066685397 : True := ⟨⟩
theorem hd.tw9476321141362543215 : True := ⟨⟩
theorem hd.tw8356816923877370021 : True := ⟨⟩
theorem hd.tw4303197518546878200 : True := ⟨⟩
theorem hd.tw26425463804135960 : True := ⟨⟩
theorem hd.tw9513423893830186035 : True := ⟨⟩
theorem hd.tw15683763237869141255 : True := ⟨⟩
theorem hd.tw4297731678662094536 : True := ⟨⟩
theorem hd.tw16432713993328977331 : True := ⟨⟩
theorem hd.tw12629568148972539762 : True := ⟨⟩
theorem hd.tw6755925336976613232 : True := ⟨⟩
theorem hd.tw16415028865518655546 : True := ⟨⟩
theorem hd.tw5283464899586487735 : True := ⟨⟩
theorem hd.tw876933089483189297 : True := ⟨⟩
theorem hd.tw5605480435847508373 : True := ⟨⟩
theorem hd.tw7028611270464810887 : True := ⟨⟩
theorem hd.tw5405509625223553959 : True := ⟨⟩
theorem hd.tw3913528116038191188 : True := ⟨⟩
theorem hd.tw14246236162039180721 : True := ⟨⟩
theorem hd.tw16011055738799735888 : True := ⟨⟩
theorem hd.tw10643592516055977328 : True := ⟨⟩
theorem hd.tw4355604671862981090 : True := ⟨⟩
theorem hd.tw10264135568141901301 : True := ⟨⟩
theorem hd.tw16826083622388986153 : True := ⟨⟩
theorem hd.tw3088336149111003398 : True := ⟨⟩
theorem hd.tw12113243949977362033 : True := ⟨⟩
theorem hd.tw15697423400787487869 : True := ⟨⟩
theorem hd.tw9153386212771759811 : True := ⟨⟩
theorem hd.tw12565835363266740329 : True := ⟨⟩
theorem hd.tw8228950375871286339 : True := ⟨⟩
theorem hd.tw518976864732996251 : True := ⟨⟩
theorem hd.tw12832683148521936107 : True := ⟨⟩
theorem hd.tw1043307727769730188 : True := ⟨⟩
theorem hd.tw10879034167726328663 : True := ⟨⟩
theorem hd.tw6578402527460240241 : True := ⟨⟩
theorem hd.tw16064382804478563927 : True := ⟨⟩
theorem hd.tw10787125048147943196 : True := ⟨⟩
theorem hd.tw14667805832236412624 : True := ⟨⟩
theorem hd.tw15618049606547972131 : True := ⟨⟩
theorem hd.tw6615107907471364465 : True := ⟨⟩
theorem hd.tw7951154912783665155 : True := ⟨⟩
theorem hd.tw6394381022753523788 : True := ⟨⟩
theorem hd.tw6181573660694698118 : True := ⟨⟩
theorem hd.tw4068527845204499245 : True := ⟨⟩
theorem hd.tw2004659784336800654 : True := ⟨⟩
theorem hd.tw17062030032774818151 : True := ⟨⟩
theorem hd.tw12337632362937886050 : True := ⟨⟩
theorem hd.tw6305734824756694309 : True := ⟨⟩
theorem hd.tw11283319371284918911 : True := ⟨⟩
theorem hd.tw2252305205657439004 : True := ⟨⟩
theorem hd.tw16487816990975572028 : True := ⟨⟩
theorem hd.tw4494801613693538912 : True := ⟨⟩
theorem hd.tw5643178794243155062 : True := ⟨⟩
theorem hd.tw7526368328331116154 : True := ⟨⟩
theorem hd.tw18095200977026478895 : True := ⟨⟩
theorem hd.tw14440960662653809013 : True := ⟨⟩
theorem hd.tw11551083187376567056 : True := ⟨⟩
theorem hd.tw578887228443019578 : True := ⟨⟩
theorem hd.tw1893913032611223051 : True := ⟨⟩
theorem hd.tw678209747344391502 : True := ⟨⟩
theorem hd.tw6278647508926252785 : True := ⟨⟩
theorem hd.tw14685462170515437407 : True := ⟨⟩
theorem hd.tw3429492842335990350 : True := ⟨⟩
theorem hd.tw12023040214023829324 : True := ⟨⟩
set_option Elab.async true in
theorem hd : PySem.Challenge.rw_mr0356_02.Holds := by
  w_on; o_law; k_head; (case hw => w_witness2)
  k_fill
  intro w s₀ s₁ mg mb G Y fa o pm cd doc dV kV ho hd hcd hD hmg hg args vals as hpre hlay hrd hwl hlo
  have KX := kIn_of Y
  refine Ground.open G ?_
  intro T B D TE TW
  try (refine guard_noD D (by decide +kernel) ?_; clear D)
  obtain ⟨_, _, M⟩ := bmod_of_top T
  wrow_args hpre hlay hrd hwl hlo
  refine enter_call ?_
  w_top on
  have K0 := below_caller (Top.heap T)
  w_call any ho hd hcd hD T F
  have X : (KK w.params).In s₁.heap := KK_in KX (by kernel_rfl!)
  have TT := tab_780 T X (by kernel_rfl!)
  rename Well _ _ _ _ => W
  obtain ⟨l, xs, n, e, hl, hI⟩ := well_ints W
  cases e
  rename (¬ _ < _) => hlen
  have GG : Gd (KK w.params) mg mb s₁.heap := ⟨X, T.g, T.b, T.nolimit, T.builtins, (let ⟨mc, N, _⟩ := T.nolimit; ⟨mc, N, ns_none_of X N (by kernel_rfl!)⟩), ⟨_, _, M⟩⟩
  refine law_walk' (by kernel_rfl!) (by kernel_rfl!) GG hl TT.2 hI (by omega) F (by first | rfl | kernel_rfl!) (.of_eq hg) (by simp) ?_
  intro s' hos hgs hk ⟨ps, hp⟩
  refine ⟨.inl ⟨.bool true, .bool true, [], rfl, raisesW_false (by wrow_none_raised), .bool true, postW_of (by wrow_shape) (by wtm_val) (by w_fin), unshared_nil⟩, ⟨fun b o e => ?_, fun b o e => ?_⟩, hos, hgs⟩
  · by_cases hb : b = 780
    · subst hb
      rw [TT.2] at e; cases e
      exact .inr (.inl ⟨TT.isCodeTable, rfl, #[], ps, rfl, by simpa using hp⟩)
    · exact .inl (hk b o hb e)
  · by_cases hb : b = 780
    · subst hb; exact ⟨_, hp⟩
    · exact ⟨_, hk b o hb e⟩
end Mine
theorem PySem.Challenge.cw_mr0356_02_holds : PySem.Challenge.rw_mr0356_02.Holds :=
  Mine.hd
end
